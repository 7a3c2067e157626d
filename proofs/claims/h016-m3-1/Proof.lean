import JvmDerived
import JvmDerived.Pilot.@@N@@Statement
import JvmDerived.Pilot.@@N@@Code
set_option linter.unusedVariables false
set_option linter.unusedSimpArgs false
namespace Jvm.RoadKit
open Sem ClassFile Op Lib Jvm.Stand Jvm.Free Jvm.LawKit
section New
variable {p : Program} {l : Launch} {e : Env} {R : Room} {s : State} {m : MethodId} {args : Array Value} {below : List Frame} {meth : Method} {c : Code} {T : State} {locs : List Loc} {cells slots : Nat}
theorem retI (X : Stand p l e R s m args below meth c T locs cells slots) (hx : p.tables.exec = Jvm.exec) {pc : Nat} {Ls : Array Slot} {z : Int32} {rest : List Value} (hret : meth.sig.returnType = some .int) (hd : decode c.code pc = .ok (.ireturn, 1)) {fs : List Frame}
    (hl : ∀ (f : JFrame) (acts : List Action), f.method = m → f.locked = none → f.entered = [] → (doReturn e (T.setTop f) acts (some (.int z))).1 = T.setFrames fs) : Steps p.tables e below (T.setTop (mkF m pc Ls (.int z :: rest))) (T.setFrames fs) := by
  have hm' : T.vm.method? m = some meth := X.method'
  have hn : narrow .int (.int z) = .int z := rfl
  show Steps p.tables e below (T.setTop { method := m, pc := pc, locals := Ls, stack := _ :: rest, locked := none }) _
  jvm_step X.here [X.here.top, hx, hd, hm', hret, hn]
  first | (intro acts; rw [hl _ acts rfl rfl rfl]) | rw [hl _ _ rfl rfl rfl]
  exact Steps.refl _
end New
end Jvm.RoadKit
namespace Jvm.Pilot.@@N@@
open Jvm Jvm.ClassFile Sem Op Lib Jvm.Free Jvm.Stand Jvm.LawKit Jvm.RoadKit Bundle Jvm.Pilot.@@N@@.Jvm.D
section OwnKit
variable {p : Program} {l : Launch} {e : Env} {R : Room} {s : State} {m : MethodId} {args : Array Value} {below : List Frame} {meth : Method} {c : Code} {Z : State} {a0 : Array Value} {cd : ByteArray} {ml : Nat} {ret : Option FieldType} {own nm : String} {n0 : Nat} {Q : Option Value → Heap → Prop} {h : Heap} {k n : Nat}
/-- what stands fast while one body runs -/
def Cx (p : Program) (s : State) (m : MethodId) (meth : Method) (c : Code) (Z : State) (cd : ByteArray) (ml : Nat) (ret : Option FieldType) (own nm : String) : Prop :=
  p.tables.exec = Jvm.exec ∧ Z.Warmed39 s.vm ∧ c.code = cd ∧ c.maxLocals = ml ∧ s.vm.findClass own = some m.cls ∧ meth.sig.returnType = ret ∧ meth.locks = false ∧ meth.name = nm
/-- from this frame, over this heap, the body returns and Q holds -/
def Wp (p : Program) (l : Launch) (e : Env) (R : Room) (s : State) (m : MethodId) (args : Array Value) (below : List Frame) (meth : Method) (c : Code) (n0 : Nat) (Q : Option Value → Heap → Prop) (h : Heap) (k n : Nat) (g : JFrame) : Prop :=
  ∀ (T : State) (locs : List Loc), Stand p l e R s m args below meth c T locs k n → T.heap = h → Fr n0 locs →
    ∃ s₂ o, Steps p.tables e below (T.setTop g) s₂ ∧ s₂.status = .running ∧ Ended s₂ below o ∧ ∃ v L, o = .returned v ∧ (Q v s₂.heap ∧ Fr n0 L) ∧ FrameEnd s o s₂ L R.cells R.slots
/-- a callee's contract: called with these arguments over this heap it returns, and Q holds -/
def Met (l : Launch) (y : MethodName) (bytes : ByteArray) (mL : Nat) (rt : Option FieldType) (ws : List Jvm.Cond) (rm : Room) (Z : State) (n0 : Nat) (as : Array Value) (h : Heap) (Q : Option Value → Heap → Prop) : Prop :=
  MetFree l y (head1 (Jvm.Cond.code y bytes mL rt :: ws) rm) (fun a U => a = as ∧ Z.Warmed39 U.vm ∧ U.heap = h) (fun _ _ _ _ _ => True) (fun _ U o U' => ∃ v L, o = .returned v ∧ (Q v U'.heap ∧ Fr n0 L) ∧ FrameEnd U o U' L rm.cells rm.slots)
theorem own_met {y : MethodName} {bytes : ByteArray} {mL : Nat} {rt : Option FieldType} {ws : List Jvm.Cond} {rm : Room} {as : Array Value} {Ls : Array Slot} (hpn : plainName y.cls = true) (hef : ∀ m, entryFrame m as mL = mkF m 0 Ls [])
    (H : ∀ p e s m below meth c, Cx p s m meth c Z bytes mL rt y.cls y.name → Wp p l e rm s m as below meth c n0 Q h 0 0 (mkF m 0 Ls [])) : Met l y bytes mL rt ws rm Z n0 as h Q := by
  refine MetFree.of_bodySF (plainFor_of_name hpn) hisR ?_
  intro p e s m args below meth c s₁ Bd hml0 hP hK
  obtain ⟨rfl, hZ, hh⟩ := hP
  have hown : s.vm.findClass y.cls = some m.cls := findClass_of_methodNamed Bd.named
  have hnm := (name_of_methodNamed Bd.named Bd.method).1
  have X0 : Stand p l e rm s m args below meth c s₁ [] 0 0 := Stand.of_body Bd
  have e0 : s₁.heap = h := by rw [← hh, Bd.state]; rfl
  obtain ⟨s₂, o, st, r⟩ := H p e s m below meth c ⟨Bd.exec, hZ, Bd.bytes, hml0, hown, Bd.returns, Bd.notSynchronized, hnm⟩ s₁ [] X0 e0 (Fr.nil n0)
  exact ⟨s₂, o, castTop (hef m) st, r⟩
/-! single steps -/
theorem own_lift {g g' : JFrame} (H : ∀ T, At T m c below → ∀ t, Steps p.tables e below (T.setTop g') t → Steps p.tables e below (T.setTop g) t) (W : Wp p l e R s m args below meth c n0 Q h k n g') : Wp p l e R s m args below meth c n0 Q h k n g := fun T locs X eT N => by
  obtain ⟨s₂, o, st, r⟩ := W T locs X eT N
  exact ⟨s₂, o, H T X.here _ st, r⟩
theorem own_liftX {g g' : JFrame} (H : ∀ T locs, Stand p l e R s m args below meth c T locs k n → T.heap = h → ∀ t, Steps p.tables e below (T.setTop g') t → Steps p.tables e below (T.setTop g) t) (W : Wp p l e R s m args below meth c n0 Q h k n g') : Wp p l e R s m args below meth c n0 Q h k n g := fun T locs X eT N => by
  obtain ⟨s₂, o, st, r⟩ := W T locs X eT N
  exact ⟨s₂, o, H T locs X eT _ st, r⟩
theorem own_cast {g g' : JFrame} (q : g = g') (W : Wp p l e R s m args below meth c n0 Q h k n g') : Wp p l e R s m args below meth c n0 Q h k n g := q ▸ W
theorem own_seq {g g' : JFrame} (t : Wp p l e R s m args below meth c n0 Q h k n g' → Wp p l e R s m args below meth c n0 Q h k n g) (w : Wp p l e R s m args below meth c n0 Q h k n g') : Wp p l e R s m args below meth c n0 Q h k n g := t w
theorem own_seq1 {g : JFrame} {F : Slot → JFrame} (t : (∀ u, RoadKit.One u → Wp p l e R s m args below meth c n0 Q h k n (F u)) → Wp p l e R s m args below meth c n0 Q h k n g) (w : ∀ u, RoadKit.One u → Wp p l e R s m args below meth c n0 Q h k n (F u)) : Wp p l e R s m args below meth c n0 Q h k n g := t w
theorem own_seq2 {g : JFrame} {F : Slot → Slot → JFrame} (t : (∀ u, RoadKit.One u → ∀ v, RoadKit.One v → Wp p l e R s m args below meth c n0 Q h k n (F u v)) → Wp p l e R s m args below meth c n0 Q h k n g) (w : ∀ u, RoadKit.One u → ∀ v, RoadKit.One v → Wp p l e R s m args below meth c n0 Q h k n (F u v)) : Wp p l e R s m args below meth c n0 Q h k n g := t w
theorem own_seqH {g g' : JFrame} {P : Heap → Prop} {k' n' : Nat} (t : (∀ h', P h' → Wp p l e R s m args below meth c n0 Q h' k' n' g') → Wp p l e R s m args below meth c n0 Q h k n g) (w : ∀ h', P h' → Wp p l e R s m args below meth c n0 Q h' k' n' g') : Wp p l e R s m args below meth c n0 Q h k n g := t w
variable {pc pc' : Nat} {Ls Ls' : Array Slot} {st : List Value}
theorem own_iload (C : Cx p s m meth c Z cd ml ret own nm) {i : Nat} {v : Int32} (hd : decode cd pc = .ok (.iload i, 2)) (hl : Ls[i]? = some (.val (.int v))) (hp : pc + 2 = pc') (W : Wp p l e R s m args below meth c n0 Q h k n (mkF m pc' Ls (.int v :: st))) : Wp p l e R s m args below meth c n0 Q h k n (mkF m pc Ls st) := by
  subst hp; exact own_lift (fun T A t q => XS.iload A C.1 rfl (hb C.2.2.1 hd) hl q) W
theorem own_iloadN (C : Cx p s m meth c Z cd ml ret own nm) {i : Fin 4} {v : Int32} (hd : decode cd pc = .ok (.iload_n i, 1)) (hl : Ls[i.val]? = some (.val (.int v))) (hp : pc + 1 = pc') (W : Wp p l e R s m args below meth c n0 Q h k n (mkF m pc' Ls (.int v :: st))) : Wp p l e R s m args below meth c n0 Q h k n (mkF m pc Ls st) := by
  subst hp; exact own_lift (fun T A t q => XS.iloadN A C.1 rfl (hb C.2.2.1 hd) hl q) W
theorem own_lload (C : Cx p s m meth c Z cd ml ret own nm) {i : Nat} {v : Int64} (hd : decode cd pc = .ok (.lload i, 2)) (hl : Ls[i]? = some (.val (.long v))) (hp : pc + 2 = pc') (W : Wp p l e R s m args below meth c n0 Q h k n (mkF m pc' Ls (.long v :: st))) : Wp p l e R s m args below meth c n0 Q h k n (mkF m pc Ls st) := by
  subst hp; exact own_lift (fun T A t q => XS.lload A C.1 rfl (hb C.2.2.1 hd) hl q) W
theorem own_lloadN (C : Cx p s m meth c Z cd ml ret own nm) {i : Fin 4} {v : Int64} (hd : decode cd pc = .ok (.lload_n i, 1)) (hl : Ls[i.val]? = some (.val (.long v))) (hp : pc + 1 = pc') (W : Wp p l e R s m args below meth c n0 Q h k n (mkF m pc' Ls (.long v :: st))) : Wp p l e R s m args below meth c n0 Q h k n (mkF m pc Ls st) := by
  subst hp; exact own_lift (fun T A t q => XS.lloadN A C.1 rfl (hb C.2.2.1 hd) hl q) W
theorem own_aload (C : Cx p s m meth c Z cd ml ret own nm) {i : Nat} {v : Value} (hd : decode cd pc = .ok (.aload i, 2)) (hl : Ls[i]? = some (.val v)) (hv : v.isRef = true) (hp : pc + 2 = pc') (W : Wp p l e R s m args below meth c n0 Q h k n (mkF m pc' Ls (v :: st))) : Wp p l e R s m args below meth c n0 Q h k n (mkF m pc Ls st) := by
  subst hp; exact own_lift (fun T A t q => XS.aload A C.1 rfl (hb C.2.2.1 hd) hl hv q) W
theorem own_aloadN (C : Cx p s m meth c Z cd ml ret own nm) {i : Fin 4} {v : Value} (hd : decode cd pc = .ok (.aload_n i, 1)) (hl : Ls[i.val]? = some (.val v)) (hv : v.isRef = true) (hp : pc + 1 = pc') (W : Wp p l e R s m args below meth c n0 Q h k n (mkF m pc' Ls (v :: st))) : Wp p l e R s m args below meth c n0 Q h k n (mkF m pc Ls st) := by
  subst hp; exact own_lift (fun T A t q => XS.aloadN A C.1 rfl (hb C.2.2.1 hd) hl hv q) W
theorem own_istore (C : Cx p s m meth c Z cd ml ret own nm) {i : Nat} {x y : Int32} (hd : decode cd pc = .ok (.istore i, 2)) (hy : x = y) (hl : storeLocals Ls i (.int y) = some Ls') (hp : pc + 2 = pc') (W : Wp p l e R s m args below meth c n0 Q h k n (mkF m pc' Ls' st)) : Wp p l e R s m args below meth c n0 Q h k n (mkF m pc Ls (.int x :: st)) := by
  subst hp hy; exact own_lift (fun T A t q => XS.istore A C.1 rfl (hb C.2.2.1 hd) rfl hl q) W
theorem own_istoreN (C : Cx p s m meth c Z cd ml ret own nm) {i : Fin 4} {x y : Int32} (hd : decode cd pc = .ok (.istore_n i, 1)) (hy : x = y) (hl : storeLocals Ls i.val (.int y) = some Ls') (hp : pc + 1 = pc') (W : Wp p l e R s m args below meth c n0 Q h k n (mkF m pc' Ls' st)) : Wp p l e R s m args below meth c n0 Q h k n (mkF m pc Ls (.int x :: st)) := by
  subst hp hy; exact own_lift (fun T A t q => XS.istoreN A C.1 rfl (hb C.2.2.1 hd) rfl hl q) W
theorem own_lstore (C : Cx p s m meth c Z cd ml ret own nm) {i : Nat} {x y : Int64} (hd : decode cd pc = .ok (.lstore i, 2)) (hy : x = y) (hl : storeLocals Ls i (.long y) = some Ls') (hp : pc + 2 = pc') (W : Wp p l e R s m args below meth c n0 Q h k n (mkF m pc' Ls' st)) : Wp p l e R s m args below meth c n0 Q h k n (mkF m pc Ls (.long x :: st)) := by
  subst hp hy; exact own_lift (fun T A t q => XS.lstore A C.1 rfl (hb C.2.2.1 hd) rfl hl q) W
theorem own_lstoreN (C : Cx p s m meth c Z cd ml ret own nm) {i : Fin 4} {x y : Int64} (hd : decode cd pc = .ok (.lstore_n i, 1)) (hy : x = y) (hl : storeLocals Ls i.val (.long y) = some Ls') (hp : pc + 1 = pc') (W : Wp p l e R s m args below meth c n0 Q h k n (mkF m pc' Ls' st)) : Wp p l e R s m args below meth c n0 Q h k n (mkF m pc Ls (.long x :: st)) := by
  subst hp hy; exact own_lift (fun T A t q => XS.lstoreN A C.1 rfl (hb C.2.2.1 hd) rfl hl q) W
theorem own_astore (C : Cx p s m meth c Z cd ml ret own nm) {i : Nat} {x : Value} (hd : decode cd pc = .ok (.astore i, 2)) (hv : x.isRef = true) (hl : storeLocals Ls i x = some Ls') (hp : pc + 2 = pc') (W : Wp p l e R s m args below meth c n0 Q h k n (mkF m pc' Ls' st)) : Wp p l e R s m args below meth c n0 Q h k n (mkF m pc Ls (x :: st)) := by
  subst hp; exact own_lift (fun T A t q => XS.astore A C.1 rfl (hb C.2.2.1 hd) rfl hv hl q) W
theorem own_astoreN (C : Cx p s m meth c Z cd ml ret own nm) {i : Fin 4} {x : Value} (hd : decode cd pc = .ok (.astore_n i, 1)) (hv : x.isRef = true) (hl : storeLocals Ls i.val x = some Ls') (hp : pc + 1 = pc') (W : Wp p l e R s m args below meth c n0 Q h k n (mkF m pc' Ls' st)) : Wp p l e R s m args below meth c n0 Q h k n (mkF m pc Ls (x :: st)) := by
  subst hp; exact own_lift (fun T A t q => XS.astoreN A C.1 rfl (hb C.2.2.1 hd) rfl hv hl q) W
theorem own_iconst (C : Cx p s m meth c Z cd ml ret own nm) {i : Int} {v : Int32} (hd : decode cd pc = .ok (.iconst i, 1)) (hv : Int32.ofInt i = v) (hp : pc + 1 = pc') (W : Wp p l e R s m args below meth c n0 Q h k n (mkF m pc' Ls (.int v :: st))) : Wp p l e R s m args below meth c n0 Q h k n (mkF m pc Ls st) := by
  subst hp hv; exact own_lift (fun T A t q => XS.iconst A C.1 rfl (hb C.2.2.1 hd) q) W
theorem own_bipush (C : Cx p s m meth c Z cd ml ret own nm) {i : Int} {v : Int32} (hd : decode cd pc = .ok (.bipush i, 2)) (hv : (Int8.ofInt i).toInt32 = v) (hp : pc + 2 = pc') (W : Wp p l e R s m args below meth c n0 Q h k n (mkF m pc' Ls (.int v :: st))) : Wp p l e R s m args below meth c n0 Q h k n (mkF m pc Ls st) := by
  subst hp hv; exact own_lift (fun T A t q => XS.bipush A C.1 rfl (hb C.2.2.1 hd) q) W
theorem own_sipush (C : Cx p s m meth c Z cd ml ret own nm) {i : Int} {v : Int32} (hd : decode cd pc = .ok (.sipush i, 3)) (hv : (Int16.ofInt i).toInt32 = v) (hp : pc + 3 = pc') (W : Wp p l e R s m args below meth c n0 Q h k n (mkF m pc' Ls (.int v :: st))) : Wp p l e R s m args below meth c n0 Q h k n (mkF m pc Ls st) := by
  subst hp hv; exact own_lift (fun T A t q => XS.sipush A C.1 rfl (hb C.2.2.1 hd) q) W
theorem own_lconst (C : Cx p s m meth c Z cd ml ret own nm) {i : Fin 2} {v : Int64} (hd : decode cd pc = .ok (.lconst i, 1)) (hv : Int64.ofNat i.val = v) (hp : pc + 1 = pc') (W : Wp p l e R s m args below meth c n0 Q h k n (mkF m pc' Ls (.long v :: st))) : Wp p l e R s m args below meth c n0 Q h k n (mkF m pc Ls st) := by
  subst hp hv; exact own_lift (fun T A t q => XS.lconst A C.1 rfl (hb C.2.2.1 hd) q) W
theorem own_null (C : Cx p s m meth c Z cd ml ret own nm) (hd : decode cd pc = .ok (.aconst_null, 1)) (hp : pc + 1 = pc') (W : Wp p l e R s m args below meth c n0 Q h k n (mkF m pc' Ls (.null :: st))) : Wp p l e R s m args below meth c n0 Q h k n (mkF m pc Ls st) := by
  subst hp; exact own_lift (fun T A t q => XS.aconstNull A C.1 rfl (hb C.2.2.1 hd) q) W
/-! returns -/
theorem own_vret (C : Cx p s m meth c Z cd ml none own nm) (hd : decode cd pc = .ok (.return_, 1)) (hk : k ≤ R.cells) (hn : n ≤ R.slots) (hq : Q none h) : Wp p l e R s m args below meth c n0 Q h k n (mkF m pc Ls []) := fun T locs X eT N => by
  obtain ⟨hx, hZ, hby, hml, hown, hret, hlk, hnm⟩ := C
  obtain ⟨fs, hr, hrun, hended, hW, hsame⟩ := X.leave (v := none) (fun _ => rfl) hlk
  exact ⟨_, _, X.returnOut hx hret (hb hby hd) hr, hrun, hended, _, _, rfl, ⟨by rw [show (T.setFrames fs).heap = T.heap from rfl, eT]; exact hq, N⟩, ⟨_, rfl⟩, hW, hsame.mono hk hn⟩
theorem own_iret {z : Int32} (C : Cx p s m meth c Z cd ml (some .int) own nm) (hd : decode cd pc = .ok (.ireturn, 1)) (hk : k ≤ R.cells) (hn : n ≤ R.slots) (hq : Q (some (.int z)) h) : Wp p l e R s m args below meth c n0 Q h k n (mkF m pc Ls (.int z :: st)) := fun T locs X eT N => by
  obtain ⟨hx, hZ, hby, hml, hown, hret, hlk, hnm⟩ := C
  obtain ⟨fs, hr, hrun, hended, hW, hsame⟩ := X.leave (v := some (.int z)) (fun q => by rw [hret] at q; cases q) hlk
  exact ⟨_, _, retI X hx hret (hb hby hd) hr, hrun, hended, _, _, rfl, ⟨by rw [show (T.setFrames fs).heap = T.heap from rfl, eT]; exact hq, N⟩, ⟨_, rfl⟩, hW, hsame.mono hk hn⟩
theorem own_nret {z : Int32} {t : FieldType} (C : Cx p s m meth c Z cd ml (some t) own nm) (ht : t = .boolean ∨ t = .byte ∨ t = .char ∨ t = .short) (hd : decode cd pc = .ok (.ireturn, 1)) (hk : k ≤ R.cells) (hn : n ≤ R.slots) (hq : Q (some (.int (nar t z))) h) : Wp p l e R s m args below meth c n0 Q h k n (mkF m pc Ls (.int z :: st)) := fun T locs X eT N => by
  obtain ⟨hx, hZ, hby, hml, hown, hret, hlk, hnm⟩ := C
  obtain ⟨fs, hr, hrun, hended, hW, hsame⟩ := X.leave (v := some (.int (nar t z))) (fun q => by rw [hret] at q; cases q) hlk
  exact ⟨_, _, retN X hx hret ht (hb hby hd) hr, hrun, hended, _, _, rfl, ⟨by rw [show (T.setFrames fs).heap = T.heap from rfl, eT]; exact hq, N⟩, ⟨_, rfl⟩, hW, hsame.mono hk hn⟩
theorem own_zret {z : Int32} (C : Cx p s m meth c Z cd ml (some .boolean) own nm) (hd : decode cd pc = .ok (.ireturn, 1)) (hk : k ≤ R.cells) (hn : n ≤ R.slots) (hz : z = 0 ∨ z = 1) (hq : Q (some (.int z)) h) : Wp p l e R s m args below meth c n0 Q h k n (mkF m pc Ls (.int z :: st)) :=
  own_nret C (Or.inl rfl) hd hk hn (by rcases hz with rfl | rfl <;> exact hq)
theorem own_lret {z : Int64} (C : Cx p s m meth c Z cd ml (some .long) own nm) (hd : decode cd pc = .ok (.lreturn, 1)) (hk : k ≤ R.cells) (hn : n ≤ R.slots) (hq : Q (some (.long z)) h) : Wp p l e R s m args below meth c n0 Q h k n (mkF m pc Ls [.long z]) := fun T locs X eT N => by
  obtain ⟨hx, hZ, hby, hml, hown, hret, hlk, hnm⟩ := C
  obtain ⟨fs, hr, hrun, hended, hW, hsame⟩ := X.leave (v := some (.long z)) (fun q => by rw [hret] at q; cases q) hlk
  exact ⟨_, _, X.lreturnOut hx hret (hb hby hd) hr, hrun, hended, _, _, rfl, ⟨by rw [show (T.setFrames fs).heap = T.heap from rfl, eT]; exact hq, N⟩, ⟨_, rfl⟩, hW, hsame.mono hk hn⟩
theorem own_aret {z : Value} {t : FieldType} (C : Cx p s m meth c Z cd ml (some t) own nm) (hv : z.isRef = true) (ht : t.isReference = true) (hd : decode cd pc = .ok (.areturn, 1)) (hk : k ≤ R.cells) (hn : n ≤ R.slots) (hq : Q (some z) h) : Wp p l e R s m args below meth c n0 Q h k n (mkF m pc Ls (z :: st)) := fun T locs X eT N => by
  obtain ⟨hx, hZ, hby, hml, hown, hret, hlk, hnm⟩ := C
  obtain ⟨fs, hr, hrun, hended, hW, hsame⟩ := X.leave (v := some z) (fun q => by rw [hret] at q; cases q) hlk
  have hd' := hb hby hd
  refine ⟨_, _, ?_, hrun, hended, _, _, rfl, ⟨by rw [show (T.setFrames fs).heap = T.heap from rfl, eT]; exact hq, N⟩, ⟨_, rfl⟩, hW, hsame.mono hk hn⟩
  jvm_step X.here [X.here.top, hx, hd', X.method', hret, hv, ht]
  first | (intro acts; rw [hr _ acts rfl rfl rfl]) | rw [hr _ _ rfl rfl rfl]
  exact Steps.refl _
theorem own_iadd (C : Cx p s m meth c Z cd ml ret own nm) {x y v : Int32} (hd : decode cd pc = .ok (.iadd, 1)) (hv : x + y = v) (hp : pc + 1 = pc') (W : Wp p l e R s m args below meth c n0 Q h k n (mkF m pc' Ls (.int v :: st))) : Wp p l e R s m args below meth c n0 Q h k n (mkF m pc Ls (.int y :: .int x :: st)) := by
  subst hp hv; exact own_lift (fun T A t q => XS.iadd A C.1 rfl (hb C.2.2.1 hd) rfl q) W
theorem own_isub (C : Cx p s m meth c Z cd ml ret own nm) {x y v : Int32} (hd : decode cd pc = .ok (.isub, 1)) (hv : x - y = v) (hp : pc + 1 = pc') (W : Wp p l e R s m args below meth c n0 Q h k n (mkF m pc' Ls (.int v :: st))) : Wp p l e R s m args below meth c n0 Q h k n (mkF m pc Ls (.int y :: .int x :: st)) := by
  subst hp hv; exact own_lift (fun T A t q => XS.isub A C.1 rfl (hb C.2.2.1 hd) rfl q) W
theorem own_imul (C : Cx p s m meth c Z cd ml ret own nm) {x y v : Int32} (hd : decode cd pc = .ok (.imul, 1)) (hv : x * y = v) (hp : pc + 1 = pc') (W : Wp p l e R s m args below meth c n0 Q h k n (mkF m pc' Ls (.int v :: st))) : Wp p l e R s m args below meth c n0 Q h k n (mkF m pc Ls (.int y :: .int x :: st)) := by
  subst hp hv; exact own_lift (fun T A t q => XS.imul A C.1 rfl (hb C.2.2.1 hd) rfl q) W
theorem own_iand (C : Cx p s m meth c Z cd ml ret own nm) {x y v : Int32} (hd : decode cd pc = .ok (.iand, 1)) (hv : x &&& y = v) (hp : pc + 1 = pc') (W : Wp p l e R s m args below meth c n0 Q h k n (mkF m pc' Ls (.int v :: st))) : Wp p l e R s m args below meth c n0 Q h k n (mkF m pc Ls (.int y :: .int x :: st)) := by
  subst hp hv; exact own_lift (fun T A t q => XS.iand A C.1 rfl (hb C.2.2.1 hd) rfl q) W
theorem own_ior (C : Cx p s m meth c Z cd ml ret own nm) {x y v : Int32} (hd : decode cd pc = .ok (.ior, 1)) (hv : x ||| y = v) (hp : pc + 1 = pc') (W : Wp p l e R s m args below meth c n0 Q h k n (mkF m pc' Ls (.int v :: st))) : Wp p l e R s m args below meth c n0 Q h k n (mkF m pc Ls (.int y :: .int x :: st)) := by
  subst hp hv; exact own_lift (fun T A t q => XS.ior A C.1 rfl (hb C.2.2.1 hd) rfl q) W
theorem own_ixor (C : Cx p s m meth c Z cd ml ret own nm) {x y v : Int32} (hd : decode cd pc = .ok (.ixor, 1)) (hv : x ^^^ y = v) (hp : pc + 1 = pc') (W : Wp p l e R s m args below meth c n0 Q h k n (mkF m pc' Ls (.int v :: st))) : Wp p l e R s m args below meth c n0 Q h k n (mkF m pc Ls (.int y :: .int x :: st)) := by
  subst hp hv; exact own_lift (fun T A t q => XS.ixor A C.1 rfl (hb C.2.2.1 hd) rfl q) W
theorem own_ishl (C : Cx p s m meth c Z cd ml ret own nm) {x y v : Int32} (hd : decode cd pc = .ok (.ishl, 1)) (hv : x <<< (y &&& 31) = v) (hp : pc + 1 = pc') (W : Wp p l e R s m args below meth c n0 Q h k n (mkF m pc' Ls (.int v :: st))) : Wp p l e R s m args below meth c n0 Q h k n (mkF m pc Ls (.int y :: .int x :: st)) := by
  subst hp hv; exact own_lift (fun T A t q => XS.ishl A C.1 rfl (hb C.2.2.1 hd) rfl q) W
theorem own_ishr (C : Cx p s m meth c Z cd ml ret own nm) {x y v : Int32} (hd : decode cd pc = .ok (.ishr, 1)) (hv : x >>> (y &&& 31) = v) (hp : pc + 1 = pc') (W : Wp p l e R s m args below meth c n0 Q h k n (mkF m pc' Ls (.int v :: st))) : Wp p l e R s m args below meth c n0 Q h k n (mkF m pc Ls (.int y :: .int x :: st)) := by
  subst hp hv; exact own_lift (fun T A t q => XS.ishr A C.1 rfl (hb C.2.2.1 hd) rfl q) W
theorem own_iushr (C : Cx p s m meth c Z cd ml ret own nm) {x y v : Int32} (hd : decode cd pc = .ok (.iushr, 1)) (hv : (x.toUInt32 >>> (y &&& 31).toUInt32).toInt32 = v) (hp : pc + 1 = pc') (W : Wp p l e R s m args below meth c n0 Q h k n (mkF m pc' Ls (.int v :: st))) : Wp p l e R s m args below meth c n0 Q h k n (mkF m pc Ls (.int y :: .int x :: st)) := by
  subst hp hv; exact own_lift (fun T A t q => XS.iushr A C.1 rfl (hb C.2.2.1 hd) rfl q) W
theorem own_idiv (C : Cx p s m meth c Z cd ml ret own nm) {x y v : Int32} (hd : decode cd pc = .ok (.idiv, 1)) (hy : y ≠ 0) (hv : x / y = v) (hp : pc + 1 = pc') (W : Wp p l e R s m args below meth c n0 Q h k n (mkF m pc' Ls (.int v :: st))) : Wp p l e R s m args below meth c n0 Q h k n (mkF m pc Ls (.int y :: .int x :: st)) := by
  subst hp hv; exact own_lift (fun T A t q => XS.idiv A C.1 rfl (hb C.2.2.1 hd) rfl hy q) W
theorem own_ladd (C : Cx p s m meth c Z cd ml ret own nm) {x y v : Int64} (hd : decode cd pc = .ok (.ladd, 1)) (hv : x + y = v) (hp : pc + 1 = pc') (W : Wp p l e R s m args below meth c n0 Q h k n (mkF m pc' Ls (.long v :: st))) : Wp p l e R s m args below meth c n0 Q h k n (mkF m pc Ls (.long y :: .long x :: st)) := by
  subst hp hv; exact own_lift (fun T A t q => XS.ladd A C.1 rfl (hb C.2.2.1 hd) rfl q) W
theorem own_lsub (C : Cx p s m meth c Z cd ml ret own nm) {x y v : Int64} (hd : decode cd pc = .ok (.lsub, 1)) (hv : x - y = v) (hp : pc + 1 = pc') (W : Wp p l e R s m args below meth c n0 Q h k n (mkF m pc' Ls (.long v :: st))) : Wp p l e R s m args below meth c n0 Q h k n (mkF m pc Ls (.long y :: .long x :: st)) := by
  subst hp hv; exact own_lift (fun T A t q => XS.lsub A C.1 rfl (hb C.2.2.1 hd) rfl q) W
theorem own_lmul (C : Cx p s m meth c Z cd ml ret own nm) {x y v : Int64} (hd : decode cd pc = .ok (.lmul, 1)) (hv : x * y = v) (hp : pc + 1 = pc') (W : Wp p l e R s m args below meth c n0 Q h k n (mkF m pc' Ls (.long v :: st))) : Wp p l e R s m args below meth c n0 Q h k n (mkF m pc Ls (.long y :: .long x :: st)) := by
  subst hp hv; exact own_lift (fun T A t q => XS.lmul A C.1 rfl (hb C.2.2.1 hd) rfl q) W
theorem own_land (C : Cx p s m meth c Z cd ml ret own nm) {x y v : Int64} (hd : decode cd pc = .ok (.land, 1)) (hv : x &&& y = v) (hp : pc + 1 = pc') (W : Wp p l e R s m args below meth c n0 Q h k n (mkF m pc' Ls (.long v :: st))) : Wp p l e R s m args below meth c n0 Q h k n (mkF m pc Ls (.long y :: .long x :: st)) := by
  subst hp hv; exact own_lift (fun T A t q => XS.land A C.1 rfl (hb C.2.2.1 hd) rfl q) W
theorem own_lor (C : Cx p s m meth c Z cd ml ret own nm) {x y v : Int64} (hd : decode cd pc = .ok (.lor, 1)) (hv : x ||| y = v) (hp : pc + 1 = pc') (W : Wp p l e R s m args below meth c n0 Q h k n (mkF m pc' Ls (.long v :: st))) : Wp p l e R s m args below meth c n0 Q h k n (mkF m pc Ls (.long y :: .long x :: st)) := by
  subst hp hv; exact own_lift (fun T A t q => XS.lor A C.1 rfl (hb C.2.2.1 hd) rfl q) W
theorem own_lxor (C : Cx p s m meth c Z cd ml ret own nm) {x y v : Int64} (hd : decode cd pc = .ok (.lxor, 1)) (hv : x ^^^ y = v) (hp : pc + 1 = pc') (W : Wp p l e R s m args below meth c n0 Q h k n (mkF m pc' Ls (.long v :: st))) : Wp p l e R s m args below meth c n0 Q h k n (mkF m pc Ls (.long y :: .long x :: st)) := by
  subst hp hv; exact own_lift (fun T A t q => XS.lxor A C.1 rfl (hb C.2.2.1 hd) rfl q) W
theorem own_ldiv (C : Cx p s m meth c Z cd ml ret own nm) {x y v : Int64} (hd : decode cd pc = .ok (.ldiv, 1)) (hy : y ≠ 0) (hv : x / y = v) (hp : pc + 1 = pc') (W : Wp p l e R s m args below meth c n0 Q h k n (mkF m pc' Ls (.long v :: st))) : Wp p l e R s m args below meth c n0 Q h k n (mkF m pc Ls (.long y :: .long x :: st)) := by
  subst hp hv; exact own_lift (fun T A t q => XS.ldiv A C.1 rfl (hb C.2.2.1 hd) rfl hy q) W
theorem own_irem (C : Cx p s m meth c Z cd ml ret own nm) {x y v : Int32} (hd : decode cd pc = .ok (.irem, 1)) (hy : y ≠ 0) (hv : x % y = v) (hp : pc + 1 = pc') (W : Wp p l e R s m args below meth c n0 Q h k n (mkF m pc' Ls (.int v :: st))) : Wp p l e R s m args below meth c n0 Q h k n (mkF m pc Ls (.int y :: .int x :: st)) := by
  subst hp hv; exact own_liftX (fun T locs X eT t q => iremM X C.1 rfl (hb C.2.2.1 hd) rfl hy q) W
theorem own_lrem (C : Cx p s m meth c Z cd ml ret own nm) {x y v : Int64} (hd : decode cd pc = .ok (.lrem, 1)) (hy : y ≠ 0) (hv : x % y = v) (hp : pc + 1 = pc') (W : Wp p l e R s m args below meth c n0 Q h k n (mkF m pc' Ls (.long v :: st))) : Wp p l e R s m args below meth c n0 Q h k n (mkF m pc Ls (.long y :: .long x :: st)) := by
  subst hp; rw [← lrem_mod] at hv; subst hv; exact own_lift (fun T A t q => XS.lrem A C.1 rfl (hb C.2.2.1 hd) rfl hy q) W
theorem own_lshl (C : Cx p s m meth c Z cd ml ret own nm) {x v : Int64} {y : Int32} (hd : decode cd pc = .ok (.lshl, 1)) (hv : x <<< (y &&& 0x3f).toInt64 = v) (hp : pc + 1 = pc') (W : Wp p l e R s m args below meth c n0 Q h k n (mkF m pc' Ls (.long v :: st))) : Wp p l e R s m args below meth c n0 Q h k n (mkF m pc Ls (.int y :: .long x :: st)) := by
  subst hp hv; exact own_lift (fun T A t q => XS.lshl A C.1 rfl (hb C.2.2.1 hd) rfl q) W
theorem own_lshr (C : Cx p s m meth c Z cd ml ret own nm) {x v : Int64} {y : Int32} (hd : decode cd pc = .ok (.lshr, 1)) (hv : x >>> (y &&& 0x3f).toInt64 = v) (hp : pc + 1 = pc') (W : Wp p l e R s m args below meth c n0 Q h k n (mkF m pc' Ls (.long v :: st))) : Wp p l e R s m args below meth c n0 Q h k n (mkF m pc Ls (.int y :: .long x :: st)) := by
  subst hp hv; exact own_lift (fun T A t q => XS.lshr A C.1 rfl (hb C.2.2.1 hd) rfl q) W
theorem own_lushr (C : Cx p s m meth c Z cd ml ret own nm) {x v : Int64} {y : Int32} (hd : decode cd pc = .ok (.lushr, 1)) (hv : (x.toUInt64 >>> (y &&& 0x3f).toInt64.toUInt64).toInt64 = v) (hp : pc + 1 = pc') (W : Wp p l e R s m args below meth c n0 Q h k n (mkF m pc' Ls (.long v :: st))) : Wp p l e R s m args below meth c n0 Q h k n (mkF m pc Ls (.int y :: .long x :: st)) := by
  subst hp hv; exact own_lift (fun T A t q => XS.lushr A C.1 rfl (hb C.2.2.1 hd) rfl q) W
theorem own_ineg (C : Cx p s m meth c Z cd ml ret own nm) {x : Int32} {v : Int32} (hd : decode cd pc = .ok (.ineg, 1)) (hv : -x = v) (hp : pc + 1 = pc') (W : Wp p l e R s m args below meth c n0 Q h k n (mkF m pc' Ls (.int v :: st))) : Wp p l e R s m args below meth c n0 Q h k n (mkF m pc Ls (.int x :: st)) := by
  subst hp hv; exact own_lift (fun T A t q => XS.ineg A C.1 rfl (hb C.2.2.1 hd) rfl q) W
theorem own_lneg (C : Cx p s m meth c Z cd ml ret own nm) {x : Int64} {v : Int64} (hd : decode cd pc = .ok (.lneg, 1)) (hv : -x = v) (hp : pc + 1 = pc') (W : Wp p l e R s m args below meth c n0 Q h k n (mkF m pc' Ls (.long v :: st))) : Wp p l e R s m args below meth c n0 Q h k n (mkF m pc Ls (.long x :: st)) := by
  subst hp hv; exact own_lift (fun T A t q => XS.lneg A C.1 rfl (hb C.2.2.1 hd) rfl q) W
theorem own_i2l (C : Cx p s m meth c Z cd ml ret own nm) {x : Int32} {v : Int64} (hd : decode cd pc = .ok (.i2l, 1)) (hv : x.toInt64 = v) (hp : pc + 1 = pc') (W : Wp p l e R s m args below meth c n0 Q h k n (mkF m pc' Ls (.long v :: st))) : Wp p l e R s m args below meth c n0 Q h k n (mkF m pc Ls (.int x :: st)) := by
  subst hp hv; exact own_lift (fun T A t q => XS.i2l A C.1 rfl (hb C.2.2.1 hd) rfl q) W
theorem own_l2i (C : Cx p s m meth c Z cd ml ret own nm) {x : Int64} {v : Int32} (hd : decode cd pc = .ok (.l2i, 1)) (hv : x.toInt32 = v) (hp : pc + 1 = pc') (W : Wp p l e R s m args below meth c n0 Q h k n (mkF m pc' Ls (.int v :: st))) : Wp p l e R s m args below meth c n0 Q h k n (mkF m pc Ls (.long x :: st)) := by
  subst hp hv; exact own_lift (fun T A t q => XS.l2i A C.1 rfl (hb C.2.2.1 hd) rfl q) W
theorem own_i2b (C : Cx p s m meth c Z cd ml ret own nm) {x : Int32} {v : Int32} (hd : decode cd pc = .ok (.i2b, 1)) (hv : x.toInt8.toInt32 = v) (hp : pc + 1 = pc') (W : Wp p l e R s m args below meth c n0 Q h k n (mkF m pc' Ls (.int v :: st))) : Wp p l e R s m args below meth c n0 Q h k n (mkF m pc Ls (.int x :: st)) := by
  subst hp hv; exact own_lift (fun T A t q => XS.i2b A C.1 rfl (hb C.2.2.1 hd) rfl q) W
theorem own_i2s (C : Cx p s m meth c Z cd ml ret own nm) {x : Int32} {v : Int32} (hd : decode cd pc = .ok (.i2s, 1)) (hv : x.toInt16.toInt32 = v) (hp : pc + 1 = pc') (W : Wp p l e R s m args below meth c n0 Q h k n (mkF m pc' Ls (.int v :: st))) : Wp p l e R s m args below meth c n0 Q h k n (mkF m pc Ls (.int x :: st)) := by
  subst hp hv; exact own_lift (fun T A t q => XS.i2s A C.1 rfl (hb C.2.2.1 hd) rfl q) W
theorem own_i2c (C : Cx p s m meth c Z cd ml ret own nm) {x : Int32} {v : Int32} (hd : decode cd pc = .ok (.i2c, 1)) (hv : x.toUInt32.toUInt16.toUInt32.toInt32 = v) (hp : pc + 1 = pc') (W : Wp p l e R s m args below meth c n0 Q h k n (mkF m pc' Ls (.int v :: st))) : Wp p l e R s m args below meth c n0 Q h k n (mkF m pc Ls (.int x :: st)) := by
  subst hp hv; exact own_lift (fun T A t q => XS.i2c A C.1 rfl (hb C.2.2.1 hd) rfl q) W
theorem own_lcmp (C : Cx p s m meth c Z cd ml ret own nm) {x y : Int64} (hd : decode cd pc = .ok (.lcmp, 1)) (hp : pc + 1 = pc') (W : Wp p l e R s m args below meth c n0 Q h k n (mkF m pc' Ls (.int (lcmpW x y) :: st))) : Wp p l e R s m args below meth c n0 Q h k n (mkF m pc Ls (.long y :: .long x :: st)) := by
  subst hp; exact own_lift (fun T A t q => XS.lcmp A C.1 rfl (hb C.2.2.1 hd) rfl q) W
theorem own_dup (C : Cx p s m meth c Z cd ml ret own nm) {x : Value} (hd : decode cd pc = .ok (.dup, 1)) (hc : x.category = 1) (hp : pc + 1 = pc') (W : Wp p l e R s m args below meth c n0 Q h k n (mkF m pc' Ls (x :: x :: st))) : Wp p l e R s m args below meth c n0 Q h k n (mkF m pc Ls (x :: st)) := by
  subst hp; exact own_lift (fun T A t q => XS.dup A C.1 rfl (hb C.2.2.1 hd) rfl hc q) W
theorem own_pop (C : Cx p s m meth c Z cd ml ret own nm) {x : Value} (hd : decode cd pc = .ok (.pop, 1)) (hc : x.category = 1) (hp : pc + 1 = pc') (W : Wp p l e R s m args below meth c n0 Q h k n (mkF m pc' Ls st)) : Wp p l e R s m args below meth c n0 Q h k n (mkF m pc Ls (x :: st)) := by
  subst hp; exact own_lift (fun T A t q => XS.pop A C.1 rfl (hb C.2.2.1 hd) rfl hc q) W
theorem own_dupX1 (C : Cx p s m meth c Z cd ml ret own nm) {x y : Value} (hd : decode cd pc = .ok (.dup_x1, 1)) (hc : x.category = 1) (hc' : y.category = 1) (hp : pc + 1 = pc') (W : Wp p l e R s m args below meth c n0 Q h k n (mkF m pc' Ls (x :: y :: x :: st))) : Wp p l e R s m args below meth c n0 Q h k n (mkF m pc Ls (x :: y :: st)) := by
  subst hp; exact own_lift (fun T A t q => XS.dupX1 A C.1 rfl (hb C.2.2.1 hd) rfl hc hc' q) W
theorem own_dup2 (C : Cx p s m meth c Z cd ml ret own nm) {x y : Value} (hd : decode cd pc = .ok (.dup2, 1)) (hc : x.category = 1) (hc' : y.category = 1) (hp : pc + 1 = pc') (W : Wp p l e R s m args below meth c n0 Q h k n (mkF m pc' Ls (x :: y :: x :: y :: st))) : Wp p l e R s m args below meth c n0 Q h k n (mkF m pc Ls (x :: y :: st)) := by
  subst hp; exact own_lift (fun T A t q => Jvm.Free.XT.dup2 A C.1 rfl (hb C.2.2.1 hd) rfl hc hc' q) W
theorem own_iinc (C : Cx p s m meth c Z cd ml ret own nm) {i : Nat} {d : Int} {x v : Int32} (hd : decode cd pc = .ok (.iinc i d, 3)) (hl : Ls[i]? = some (.val (.int x))) (hv : x + Int32.ofInt d = v) (hl' : storeLocals Ls i (.int v) = some Ls') (hp : pc + 3 = pc') (W : Wp p l e R s m args below meth c n0 Q h k n (mkF m pc' Ls' st)) : Wp p l e R s m args below meth c n0 Q h k n (mkF m pc Ls st) := by
  subst hp hv; exact own_lift (fun T A t q => XS.iinc A C.1 rfl (hb C.2.2.1 hd) hl hl' q) W
theorem own_goto (C : Cx p s m meth c Z cd ml ret own nm) {o : Int} (hd : decode cd pc = .ok (.goto o, 3)) (ho : 0 ≤ (pc : Int) + o) (hp : ((pc : Int) + o).toNat = pc') (W : Wp p l e R s m args below meth c n0 Q h k n (mkF m pc' Ls st)) : Wp p l e R s m args below meth c n0 Q h k n (mkF m pc Ls st) :=
  own_lift (fun T A t q => XS.goto A C.1 rfl (pc0 := pc) (pc' := pc') rfl (hb C.2.2.1 hd) ho hp q) W
theorem own_icmp_lt (C : Cx p s m meth c Z cd ml ret own nm) {o : Int} {x y : Int32} {pt pf : Nat} (hd : decode cd pc = .ok (.if_icmp .lt o, 3)) (ho : 0 ≤ (pc : Int) + o) (hp : ((pc : Int) + o).toNat = pt) (hf : pc + 3 = pf) (WT : x < y → Wp p l e R s m args below meth c n0 Q h k n (mkF m pt Ls st)) (WF : ¬ x < y → Wp p l e R s m args below meth c n0 Q h k n (mkF m pf Ls st)) : Wp p l e R s m args below meth c n0 Q h k n (mkF m pc Ls (.int y :: .int x :: st)) := by
  subst hf
  by_cases g : x < y
  · exact own_lift (fun T A t q => XS.icmpYes A C.1 rfl (pc0 := pc) (pc' := pt) rfl (hb C.2.2.1 hd) rfl (tlt g).1 ho hp q) (WT g)
  · exact own_lift (fun T A t q => XS.icmpNo A C.1 rfl (hb C.2.2.1 hd) rfl (flt g).1 q) (WF g)
theorem own_if_lt (C : Cx p s m meth c Z cd ml ret own nm) {o : Int} {x : Int32} {pt pf : Nat} (hd : decode cd pc = .ok (.ifCond .lt o, 3)) (ho : 0 ≤ (pc : Int) + o) (hp : ((pc : Int) + o).toNat = pt) (hf : pc + 3 = pf) (WT : x < 0 → Wp p l e R s m args below meth c n0 Q h k n (mkF m pt Ls st)) (WF : ¬ x < 0 → Wp p l e R s m args below meth c n0 Q h k n (mkF m pf Ls st)) : Wp p l e R s m args below meth c n0 Q h k n (mkF m pc Ls (.int x :: st)) := by
  subst hf
  by_cases g : x < 0
  · exact own_lift (fun T A t q => XS.ifYes A C.1 rfl (pc0 := pc) (pc' := pt) rfl (hb C.2.2.1 hd) rfl ((if0 _ _).trans (tlt g).1) ho hp q) (WT g)
  · exact own_lift (fun T A t q => XS.ifNo A C.1 rfl (hb C.2.2.1 hd) rfl ((if0 _ _).trans (flt g).1) q) (WF g)
theorem own_lcmp_lt (C : Cx p s m meth c Z cd ml ret own nm) {o : Int} {x y : Int64} {p1 pt pf : Nat} (hd0 : decode cd pc = .ok (.lcmp, 1)) (h1 : pc + 1 = p1) (hd : decode cd p1 = .ok (.ifCond .lt o, 3)) (ho : 0 ≤ (p1 : Int) + o) (hp : ((p1 : Int) + o).toNat = pt) (hf : p1 + 3 = pf) (WT : x < y → Wp p l e R s m args below meth c n0 Q h k n (mkF m pt Ls st)) (WF : ¬ x < y → Wp p l e R s m args below meth c n0 Q h k n (mkF m pf Ls st)) : Wp p l e R s m args below meth c n0 Q h k n (mkF m pc Ls (.long y :: .long x :: st)) :=
  own_lcmp C hd0 h1 (own_if_lt C hd ho hp hf (fun g => WT ((lw_lt x y).mp g)) (fun g => WF (fun q => g ((lw_lt x y).mpr q))))
theorem own_icmp_ge (C : Cx p s m meth c Z cd ml ret own nm) {o : Int} {x y : Int32} {pt pf : Nat} (hd : decode cd pc = .ok (.if_icmp .ge o, 3)) (ho : 0 ≤ (pc : Int) + o) (hp : ((pc : Int) + o).toNat = pt) (hf : pc + 3 = pf) (WT : ¬ x < y → Wp p l e R s m args below meth c n0 Q h k n (mkF m pt Ls st)) (WF : x < y → Wp p l e R s m args below meth c n0 Q h k n (mkF m pf Ls st)) : Wp p l e R s m args below meth c n0 Q h k n (mkF m pc Ls (.int y :: .int x :: st)) := by
  subst hf
  by_cases g : x < y
  · exact own_lift (fun T A t q => XS.icmpNo A C.1 rfl (hb C.2.2.1 hd) rfl (tlt g).2.1 q) (WF g)
  · exact own_lift (fun T A t q => XS.icmpYes A C.1 rfl (pc0 := pc) (pc' := pt) rfl (hb C.2.2.1 hd) rfl (flt g).2.1 ho hp q) (WT g)
theorem own_if_ge (C : Cx p s m meth c Z cd ml ret own nm) {o : Int} {x : Int32} {pt pf : Nat} (hd : decode cd pc = .ok (.ifCond .ge o, 3)) (ho : 0 ≤ (pc : Int) + o) (hp : ((pc : Int) + o).toNat = pt) (hf : pc + 3 = pf) (WT : ¬ x < 0 → Wp p l e R s m args below meth c n0 Q h k n (mkF m pt Ls st)) (WF : x < 0 → Wp p l e R s m args below meth c n0 Q h k n (mkF m pf Ls st)) : Wp p l e R s m args below meth c n0 Q h k n (mkF m pc Ls (.int x :: st)) := by
  subst hf
  by_cases g : x < 0
  · exact own_lift (fun T A t q => XS.ifNo A C.1 rfl (hb C.2.2.1 hd) rfl ((if0 _ _).trans (tlt g).2.1) q) (WF g)
  · exact own_lift (fun T A t q => XS.ifYes A C.1 rfl (pc0 := pc) (pc' := pt) rfl (hb C.2.2.1 hd) rfl ((if0 _ _).trans (flt g).2.1) ho hp q) (WT g)
theorem own_lcmp_ge (C : Cx p s m meth c Z cd ml ret own nm) {o : Int} {x y : Int64} {p1 pt pf : Nat} (hd0 : decode cd pc = .ok (.lcmp, 1)) (h1 : pc + 1 = p1) (hd : decode cd p1 = .ok (.ifCond .ge o, 3)) (ho : 0 ≤ (p1 : Int) + o) (hp : ((p1 : Int) + o).toNat = pt) (hf : p1 + 3 = pf) (WT : ¬ x < y → Wp p l e R s m args below meth c n0 Q h k n (mkF m pt Ls st)) (WF : x < y → Wp p l e R s m args below meth c n0 Q h k n (mkF m pf Ls st)) : Wp p l e R s m args below meth c n0 Q h k n (mkF m pc Ls (.long y :: .long x :: st)) :=
  own_lcmp C hd0 h1 (own_if_ge C hd ho hp hf (fun g => WT (fun q => g ((lw_lt x y).mpr q))) (fun g => WF ((lw_lt x y).mp g)))
theorem own_icmp_gt (C : Cx p s m meth c Z cd ml ret own nm) {o : Int} {x y : Int32} {pt pf : Nat} (hd : decode cd pc = .ok (.if_icmp .gt o, 3)) (ho : 0 ≤ (pc : Int) + o) (hp : ((pc : Int) + o).toNat = pt) (hf : pc + 3 = pf) (WT : y < x → Wp p l e R s m args below meth c n0 Q h k n (mkF m pt Ls st)) (WF : ¬ y < x → Wp p l e R s m args below meth c n0 Q h k n (mkF m pf Ls st)) : Wp p l e R s m args below meth c n0 Q h k n (mkF m pc Ls (.int y :: .int x :: st)) := by
  subst hf
  by_cases g : y < x
  · exact own_lift (fun T A t q => XS.icmpYes A C.1 rfl (pc0 := pc) (pc' := pt) rfl (hb C.2.2.1 hd) rfl (tlt g).2.2.1 ho hp q) (WT g)
  · exact own_lift (fun T A t q => XS.icmpNo A C.1 rfl (hb C.2.2.1 hd) rfl (flt g).2.2.1 q) (WF g)
theorem own_if_gt (C : Cx p s m meth c Z cd ml ret own nm) {o : Int} {x : Int32} {pt pf : Nat} (hd : decode cd pc = .ok (.ifCond .gt o, 3)) (ho : 0 ≤ (pc : Int) + o) (hp : ((pc : Int) + o).toNat = pt) (hf : pc + 3 = pf) (WT : 0 < x → Wp p l e R s m args below meth c n0 Q h k n (mkF m pt Ls st)) (WF : ¬ 0 < x → Wp p l e R s m args below meth c n0 Q h k n (mkF m pf Ls st)) : Wp p l e R s m args below meth c n0 Q h k n (mkF m pc Ls (.int x :: st)) := by
  subst hf
  by_cases g : 0 < x
  · exact own_lift (fun T A t q => XS.ifYes A C.1 rfl (pc0 := pc) (pc' := pt) rfl (hb C.2.2.1 hd) rfl ((if0 _ _).trans (tlt g).2.2.1) ho hp q) (WT g)
  · exact own_lift (fun T A t q => XS.ifNo A C.1 rfl (hb C.2.2.1 hd) rfl ((if0 _ _).trans (flt g).2.2.1) q) (WF g)
theorem own_lcmp_gt (C : Cx p s m meth c Z cd ml ret own nm) {o : Int} {x y : Int64} {p1 pt pf : Nat} (hd0 : decode cd pc = .ok (.lcmp, 1)) (h1 : pc + 1 = p1) (hd : decode cd p1 = .ok (.ifCond .gt o, 3)) (ho : 0 ≤ (p1 : Int) + o) (hp : ((p1 : Int) + o).toNat = pt) (hf : p1 + 3 = pf) (WT : y < x → Wp p l e R s m args below meth c n0 Q h k n (mkF m pt Ls st)) (WF : ¬ y < x → Wp p l e R s m args below meth c n0 Q h k n (mkF m pf Ls st)) : Wp p l e R s m args below meth c n0 Q h k n (mkF m pc Ls (.long y :: .long x :: st)) :=
  own_lcmp C hd0 h1 (own_if_gt C hd ho hp hf (fun g => WT ((lw_gt x y).mp g)) (fun g => WF (fun q => g ((lw_gt x y).mpr q))))
theorem own_icmp_le (C : Cx p s m meth c Z cd ml ret own nm) {o : Int} {x y : Int32} {pt pf : Nat} (hd : decode cd pc = .ok (.if_icmp .le o, 3)) (ho : 0 ≤ (pc : Int) + o) (hp : ((pc : Int) + o).toNat = pt) (hf : pc + 3 = pf) (WT : ¬ y < x → Wp p l e R s m args below meth c n0 Q h k n (mkF m pt Ls st)) (WF : y < x → Wp p l e R s m args below meth c n0 Q h k n (mkF m pf Ls st)) : Wp p l e R s m args below meth c n0 Q h k n (mkF m pc Ls (.int y :: .int x :: st)) := by
  subst hf
  by_cases g : y < x
  · exact own_lift (fun T A t q => XS.icmpNo A C.1 rfl (hb C.2.2.1 hd) rfl (tlt g).2.2.2 q) (WF g)
  · exact own_lift (fun T A t q => XS.icmpYes A C.1 rfl (pc0 := pc) (pc' := pt) rfl (hb C.2.2.1 hd) rfl (flt g).2.2.2 ho hp q) (WT g)
theorem own_if_le (C : Cx p s m meth c Z cd ml ret own nm) {o : Int} {x : Int32} {pt pf : Nat} (hd : decode cd pc = .ok (.ifCond .le o, 3)) (ho : 0 ≤ (pc : Int) + o) (hp : ((pc : Int) + o).toNat = pt) (hf : pc + 3 = pf) (WT : ¬ 0 < x → Wp p l e R s m args below meth c n0 Q h k n (mkF m pt Ls st)) (WF : 0 < x → Wp p l e R s m args below meth c n0 Q h k n (mkF m pf Ls st)) : Wp p l e R s m args below meth c n0 Q h k n (mkF m pc Ls (.int x :: st)) := by
  subst hf
  by_cases g : 0 < x
  · exact own_lift (fun T A t q => XS.ifNo A C.1 rfl (hb C.2.2.1 hd) rfl ((if0 _ _).trans (tlt g).2.2.2) q) (WF g)
  · exact own_lift (fun T A t q => XS.ifYes A C.1 rfl (pc0 := pc) (pc' := pt) rfl (hb C.2.2.1 hd) rfl ((if0 _ _).trans (flt g).2.2.2) ho hp q) (WT g)
theorem own_lcmp_le (C : Cx p s m meth c Z cd ml ret own nm) {o : Int} {x y : Int64} {p1 pt pf : Nat} (hd0 : decode cd pc = .ok (.lcmp, 1)) (h1 : pc + 1 = p1) (hd : decode cd p1 = .ok (.ifCond .le o, 3)) (ho : 0 ≤ (p1 : Int) + o) (hp : ((p1 : Int) + o).toNat = pt) (hf : p1 + 3 = pf) (WT : ¬ y < x → Wp p l e R s m args below meth c n0 Q h k n (mkF m pt Ls st)) (WF : y < x → Wp p l e R s m args below meth c n0 Q h k n (mkF m pf Ls st)) : Wp p l e R s m args below meth c n0 Q h k n (mkF m pc Ls (.long y :: .long x :: st)) :=
  own_lcmp C hd0 h1 (own_if_le C hd ho hp hf (fun g => WT (fun q => g ((lw_gt x y).mpr q))) (fun g => WF ((lw_gt x y).mp g)))
theorem own_icmp_eq (C : Cx p s m meth c Z cd ml ret own nm) {o : Int} {x y : Int32} {pt pf : Nat} (hd : decode cd pc = .ok (.if_icmp .eq o, 3)) (ho : 0 ≤ (pc : Int) + o) (hp : ((pc : Int) + o).toNat = pt) (hf : pc + 3 = pf) (WT : x = y → Wp p l e R s m args below meth c n0 Q h k n (mkF m pt Ls st)) (WF : ¬ x = y → Wp p l e R s m args below meth c n0 Q h k n (mkF m pf Ls st)) : Wp p l e R s m args below meth c n0 Q h k n (mkF m pc Ls (.int y :: .int x :: st)) := by
  subst hf
  by_cases g : x = y
  · exact own_lift (fun T A t q => XS.icmpYes A C.1 rfl (pc0 := pc) (pc' := pt) rfl (hb C.2.2.1 hd) rfl (teq g).1 ho hp q) (WT g)
  · exact own_lift (fun T A t q => XS.icmpNo A C.1 rfl (hb C.2.2.1 hd) rfl (feq g).1 q) (WF g)
theorem own_if_eq (C : Cx p s m meth c Z cd ml ret own nm) {o : Int} {x : Int32} {pt pf : Nat} (hd : decode cd pc = .ok (.ifCond .eq o, 3)) (ho : 0 ≤ (pc : Int) + o) (hp : ((pc : Int) + o).toNat = pt) (hf : pc + 3 = pf) (WT : x = 0 → Wp p l e R s m args below meth c n0 Q h k n (mkF m pt Ls st)) (WF : ¬ x = 0 → Wp p l e R s m args below meth c n0 Q h k n (mkF m pf Ls st)) : Wp p l e R s m args below meth c n0 Q h k n (mkF m pc Ls (.int x :: st)) := by
  subst hf
  by_cases g : x = 0
  · exact own_lift (fun T A t q => XS.ifYes A C.1 rfl (pc0 := pc) (pc' := pt) rfl (hb C.2.2.1 hd) rfl ((if0 _ _).trans (teq g).1) ho hp q) (WT g)
  · exact own_lift (fun T A t q => XS.ifNo A C.1 rfl (hb C.2.2.1 hd) rfl ((if0 _ _).trans (feq g).1) q) (WF g)
theorem own_lcmp_eq (C : Cx p s m meth c Z cd ml ret own nm) {o : Int} {x y : Int64} {p1 pt pf : Nat} (hd0 : decode cd pc = .ok (.lcmp, 1)) (h1 : pc + 1 = p1) (hd : decode cd p1 = .ok (.ifCond .eq o, 3)) (ho : 0 ≤ (p1 : Int) + o) (hp : ((p1 : Int) + o).toNat = pt) (hf : p1 + 3 = pf) (WT : x = y → Wp p l e R s m args below meth c n0 Q h k n (mkF m pt Ls st)) (WF : ¬ x = y → Wp p l e R s m args below meth c n0 Q h k n (mkF m pf Ls st)) : Wp p l e R s m args below meth c n0 Q h k n (mkF m pc Ls (.long y :: .long x :: st)) :=
  own_lcmp C hd0 h1 (own_if_eq C hd ho hp hf (fun g => WT ((lw_eq x y).mp g)) (fun g => WF (fun q => g ((lw_eq x y).mpr q))))
theorem own_icmp_ne (C : Cx p s m meth c Z cd ml ret own nm) {o : Int} {x y : Int32} {pt pf : Nat} (hd : decode cd pc = .ok (.if_icmp .ne o, 3)) (ho : 0 ≤ (pc : Int) + o) (hp : ((pc : Int) + o).toNat = pt) (hf : pc + 3 = pf) (WT : ¬ x = y → Wp p l e R s m args below meth c n0 Q h k n (mkF m pt Ls st)) (WF : x = y → Wp p l e R s m args below meth c n0 Q h k n (mkF m pf Ls st)) : Wp p l e R s m args below meth c n0 Q h k n (mkF m pc Ls (.int y :: .int x :: st)) := by
  subst hf
  by_cases g : x = y
  · exact own_lift (fun T A t q => XS.icmpNo A C.1 rfl (hb C.2.2.1 hd) rfl (teq g).2 q) (WF g)
  · exact own_lift (fun T A t q => XS.icmpYes A C.1 rfl (pc0 := pc) (pc' := pt) rfl (hb C.2.2.1 hd) rfl (feq g).2 ho hp q) (WT g)
theorem own_if_ne (C : Cx p s m meth c Z cd ml ret own nm) {o : Int} {x : Int32} {pt pf : Nat} (hd : decode cd pc = .ok (.ifCond .ne o, 3)) (ho : 0 ≤ (pc : Int) + o) (hp : ((pc : Int) + o).toNat = pt) (hf : pc + 3 = pf) (WT : ¬ x = 0 → Wp p l e R s m args below meth c n0 Q h k n (mkF m pt Ls st)) (WF : x = 0 → Wp p l e R s m args below meth c n0 Q h k n (mkF m pf Ls st)) : Wp p l e R s m args below meth c n0 Q h k n (mkF m pc Ls (.int x :: st)) := by
  subst hf
  by_cases g : x = 0
  · exact own_lift (fun T A t q => XS.ifNo A C.1 rfl (hb C.2.2.1 hd) rfl ((if0 _ _).trans (teq g).2) q) (WF g)
  · exact own_lift (fun T A t q => XS.ifYes A C.1 rfl (pc0 := pc) (pc' := pt) rfl (hb C.2.2.1 hd) rfl ((if0 _ _).trans (feq g).2) ho hp q) (WT g)
theorem own_lcmp_ne (C : Cx p s m meth c Z cd ml ret own nm) {o : Int} {x y : Int64} {p1 pt pf : Nat} (hd0 : decode cd pc = .ok (.lcmp, 1)) (h1 : pc + 1 = p1) (hd : decode cd p1 = .ok (.ifCond .ne o, 3)) (ho : 0 ≤ (p1 : Int) + o) (hp : ((p1 : Int) + o).toNat = pt) (hf : p1 + 3 = pf) (WT : ¬ x = y → Wp p l e R s m args below meth c n0 Q h k n (mkF m pt Ls st)) (WF : x = y → Wp p l e R s m args below meth c n0 Q h k n (mkF m pf Ls st)) : Wp p l e R s m args below meth c n0 Q h k n (mkF m pc Ls (.long y :: .long x :: st)) :=
  own_lcmp C hd0 h1 (own_if_ne C hd ho hp hf (fun g => WT (fun q => g ((lw_eq x y).mpr q))) (fun g => WF ((lw_eq x y).mp g)))
theorem own_acmp_eq (C : Cx p s m meth c Z cd ml ret own nm) {o : Int} {a b : Addr} {pt pf : Nat} (hd : decode cd pc = .ok (.if_acmp .eq o, 3)) (ho : 0 ≤ (pc : Int) + o) (hp : ((pc : Int) + o).toNat = pt) (hf : pc + 3 = pf) (WT : a = b → Wp p l e R s m args below meth c n0 Q h k n (mkF m pt Ls st)) (WF : ¬ a = b → Wp p l e R s m args below meth c n0 Q h k n (mkF m pf Ls st)) : Wp p l e R s m args below meth c n0 Q h k n (mkF m pc Ls (.ref b :: .ref a :: st)) := by
  subst hf
  by_cases g : a = b
  · exact own_lift (fun T A t q => XS.acmpYes A C.1 rfl (pc0 := pc) (pc' := pt) rfl (hb C.2.2.1 hd) rfl (by simp [if_acmp.holds, g]) ho hp q) (WT g)
  · exact own_lift (fun T A t q => XS.acmpNo A C.1 rfl (hb C.2.2.1 hd) rfl (by simp [if_acmp.holds, g]) q) (WF g)
theorem own_acmp_ne (C : Cx p s m meth c Z cd ml ret own nm) {o : Int} {a b : Addr} {pt pf : Nat} (hd : decode cd pc = .ok (.if_acmp .ne o, 3)) (ho : 0 ≤ (pc : Int) + o) (hp : ((pc : Int) + o).toNat = pt) (hf : pc + 3 = pf) (WT : ¬ a = b → Wp p l e R s m args below meth c n0 Q h k n (mkF m pt Ls st)) (WF : a = b → Wp p l e R s m args below meth c n0 Q h k n (mkF m pf Ls st)) : Wp p l e R s m args below meth c n0 Q h k n (mkF m pc Ls (.ref b :: .ref a :: st)) := by
  subst hf
  by_cases g : a = b
  · exact own_lift (fun T A t q => XS.acmpNo A C.1 rfl (hb C.2.2.1 hd) rfl (by simp [if_acmp.holds, g]) q) (WF g)
  · exact own_lift (fun T A t q => XS.acmpYes A C.1 rfl (pc0 := pc) (pc' := pt) rfl (hb C.2.2.1 hd) rfl (by simp [if_acmp.holds, g]) ho hp q) (WT g)
theorem own_ifnull_y (C : Cx p s m meth c Z cd ml ret own nm) {o : Int} {pt : Nat} (hd : decode cd pc = .ok (.ifnull o, 3)) (ho : 0 ≤ (pc : Int) + o) (hp : ((pc : Int) + o).toNat = pt) (W : Wp p l e R s m args below meth c n0 Q h k n (mkF m pt Ls st)) : Wp p l e R s m args below meth c n0 Q h k n (mkF m pc Ls (.null :: st)) :=
  own_lift (fun T A t q => XS.ifnullYes A C.1 rfl (pc0 := pc) (pc' := pt) rfl (hb C.2.2.1 hd) rfl ho hp q) W
theorem own_ifnull_n (C : Cx p s m meth c Z cd ml ret own nm) {o : Int} {a : Addr} (hd : decode cd pc = .ok (.ifnull o, 3)) (hp : pc + 3 = pc') (W : Wp p l e R s m args below meth c n0 Q h k n (mkF m pc' Ls st)) : Wp p l e R s m args below meth c n0 Q h k n (mkF m pc Ls (.ref a :: st)) := by
  subst hp; exact own_lift (fun T A t q => XS.ifnullNo A C.1 rfl (hb C.2.2.1 hd) rfl q) W
theorem own_ifnonnull_y (C : Cx p s m meth c Z cd ml ret own nm) {o : Int} {a : Addr} {pt : Nat} (hd : decode cd pc = .ok (.ifnonnull o, 3)) (ho : 0 ≤ (pc : Int) + o) (hp : ((pc : Int) + o).toNat = pt) (W : Wp p l e R s m args below meth c n0 Q h k n (mkF m pt Ls st)) : Wp p l e R s m args below meth c n0 Q h k n (mkF m pc Ls (.ref a :: st)) :=
  own_lift (fun T A t q => XS.ifnonnullYes A C.1 rfl (pc0 := pc) (pc' := pt) rfl (hb C.2.2.1 hd) rfl ho hp q) W
theorem own_ifnonnull_n (C : Cx p s m meth c Z cd ml ret own nm) {o : Int} (hd : decode cd pc = .ok (.ifnonnull o, 3)) (hp : pc + 3 = pc') (W : Wp p l e R s m args below meth c n0 Q h k n (mkF m pc' Ls st)) : Wp p l e R s m args below meth c n0 Q h k n (mkF m pc Ls (.null :: st)) := by
  subst hp; exact own_lift (fun T A t q => XS.ifnonnullNo A C.1 rfl (hb C.2.2.1 hd) rfl q) W
theorem own_ldc (C : Cx p s m meth c Z cd ml ret own nm) {i : Nat} {v : Int32} (hd : decode cd pc = .ok (.ldc i, 2)) (w : (Jvm.Cond.constant own i v).before a0 Z = true) (hp : pc + 2 = pc') (W : Wp p l e R s m args below meth c n0 Q h k n (mkF m pc' Ls (.int v :: st))) : Wp p l e R s m args below meth c n0 Q h k n (mkF m pc Ls st) := by
  subst hp; exact own_liftX (fun T locs X eT t q => X.ldcInt C.1 C.2.2.2.2.1 (mvT C.2.1 w) (g := mkF m pc Ls st) rfl (hb C.2.2.1 hd) t q) W
theorem own_ldcw (C : Cx p s m meth c Z cd ml ret own nm) {i : Nat} {v : Int32} (hd : decode cd pc = .ok (.ldc_w i, 3)) (w : (Jvm.Cond.constant own i v).before a0 Z = true) (hp : pc + 3 = pc') (W : Wp p l e R s m args below meth c n0 Q h k n (mkF m pc' Ls (.int v :: st))) : Wp p l e R s m args below meth c n0 Q h k n (mkF m pc Ls st) := by
  subst hp; exact own_liftX (fun T locs X eT t q => X.ldcwInt C.1 C.2.2.2.2.1 (mvT C.2.1 w) (g := mkF m pc Ls st) rfl (hb C.2.2.1 hd) t q) W
theorem own_ldc2 (C : Cx p s m meth c Z cd ml ret own nm) {i : Nat} {v : Int64} (hd : decode cd pc = .ok (.ldc2_w i, 3)) (w : (Jvm.Cond.constantLong own i v).before a0 Z = true) (hp : pc + 3 = pc') (W : Wp p l e R s m args below meth c n0 Q h k n (mkF m pc' Ls (.long v :: st))) : Wp p l e R s m args below meth c n0 Q h k n (mkF m pc Ls st) := by
  subst hp; exact own_liftX (fun T locs X eT t q => X.ldc2Long C.1 C.2.2.2.2.1 (mvT C.2.1 w) (g := mkF m pc Ls st) rfl (hb C.2.2.1 hd) t q) W
/-! objects -/
theorem own_getfield (C : Cx p s m meth c Z cd ml ret own nm) {i : Nat} {O f d : String} {a : Addr} {v : Value} (hd : decode cd pc = .ok (.getfield i, 3)) (w : (Jvm.Cond.fieldLink own i O f d).before a0 Z = true) (F : Fld Z h a O f d v) (hp : pc + 3 = pc') (W : Wp p l e R s m args below meth c n0 Q h k n (mkF m pc' Ls (v :: st))) : Wp p l e R s m args below meth c n0 Q h k n (mkF m pc Ls (.ref a :: st)) := fun T locs X eT N => by
  subst hp
  obtain ⟨T', X', e', st'⟩ := getF X C.1 C.2.1 C.2.2.2.2.1 (host := "") (Or.inl w) Via.refl eT F (g := mkF m pc Ls (.ref a :: st)) rfl rfl (hb C.2.2.1 hd)
  obtain ⟨s₂, o, q, r⟩ := W T' locs X' e' N
  exact ⟨s₂, o, st' _ q, r⟩
theorem own_getstatic (C : Cx p s m meth c Z cd ml ret own nm) {i : Nat} {O f d : String} {v : Value} (hd : decode cd pc = .ok (.getstatic i, 3)) (w : (Jvm.Cond.fieldLink own i O f d).before a0 Z = true) (F : Sta Z h O f d v) (hp : pc + 3 = pc') (W : Wp p l e R s m args below meth c n0 Q h k n (mkF m pc' Ls (v :: st))) : Wp p l e R s m args below meth c n0 Q h k n (mkF m pc Ls st) := fun T locs X eT N => by
  subst hp
  obtain ⟨T', X', e', st'⟩ := getS2 X C.1 C.2.1 C.2.2.2.2.1 (host := "") (Or.inl w) Via.refl eT F (g := mkF m pc Ls st) rfl (hb C.2.2.1 hd)
  obtain ⟨s₂, o, q, r⟩ := W T' locs X' e' N
  exact ⟨s₂, o, st' _ q, r⟩
theorem own_putfield (C : Cx p s m meth c Z cd ml ret own nm) {i kk : Nat} {O f d K : String} {ty : FieldType} {a : Addr} {v old : Value} (hd : decode cd pc = .ok (.putfield i, 3)) (w : (Jvm.Cond.fieldLink own i O f d).before a0 Z = true) (F : Fld Z h a O f d old) (E : Exa Z h a K) (L : (Jvm.Cond.lays K O f d).before a0 Z = true ∨ ((Jvm.Cond.laysFinal K O f d).before a0 Z = true ∧ own = O ∧ nm = "<init>")) (wi : (Jvm.Cond.instantiable K kk).before a0 Z = true)
    (hty : parseFieldDescriptor d = some ty) (hn : narrow ty v = v) (hf : fits ty v = true) (ha : n0 ≤ a) (hp : pc + 3 = pc') (W : ∀ h', Wr h h' a (RoadKit.slotOf Z O f d) v → Fld Z h' a O f d v → Wp p l e R s m args below meth c n0 Q h' k n (mkF m pc' Ls st)) : Wp p l e R s m args below meth c n0 Q h k n (mkF m pc Ls (v :: .ref a :: st)) := fun T locs X eT N => by
  subst hp
  obtain ⟨T', h', X', e', Wr', st'⟩ := putF X C.1 C.2.1 C.2.2.2.2.1 (host := "") (Or.inl w) Via.refl eT F E (L.imp id fun q => ⟨q.1, q.2.1, C.2.2.2.2.2.2.2.trans q.2.2⟩) wi hty hn hf (g := mkF m pc Ls (v :: .ref a :: st)) rfl rfl (hb C.2.2.1 hd)
  obtain ⟨s₂, o, q, r⟩ := W h' Wr' (F.same Wr') T' _ X' e' (Fr.snoc X' N ha)
  exact ⟨s₂, o, st' _ q, r⟩
theorem own_new (C : Cx p s m meth c Z cd ml ret own nm) {i nn : Nat} {K : String} (hd : decode cd pc = .ok (.new i, 3)) (w : (Jvm.Cond.classLink own i K).before a0 Z = true) (wi : (Jvm.Cond.instantiable K nn).before a0 Z = true) (wz : (Jvm.Cond.initialized K).before a0 Z = true) (hc : k + 1 ≤ R.cells) (hl : n + nn ≤ R.slots) (hp : pc + 3 = pc')
    (W : ∀ h' a, a = h.size → Ext h h' → Exa Z h' a K → (∀ {O f d : String} {ty : FieldType}, Laid Z a0 K O f d → parseFieldDescriptor d = some ty → Fld Z h' a O f d (defaultValue ty)) → Wp p l e R s m args below meth c n0 Q h' (k + 1) (n + nn) (mkF m pc' Ls (.ref a :: st))) : Wp p l e R s m args below meth c n0 Q h k n (mkF m pc Ls st) := fun T locs X eT N => by
  subst hp
  obtain ⟨T', h', X', e', E', A', D', -, st'⟩ := newO X C.1 C.2.1 C.2.2.2.2.1 w wi wz eT (g := mkF m pc Ls st) rfl (hb C.2.2.1 hd) hc hl
  obtain ⟨s₂, o, q, r⟩ := W h' h.size rfl E' A' D' T' _ X' e' N
  exact ⟨s₂, o, st' _ q, r⟩
/-- java.lang.Object's own constructor -/
theorem own_initO (C : Cx p s m meth c Z cd ml ret own nm) {i : Nat} {wL : Nat} (hd : decode cd pc = .ok (.invokespecial i, 3)) (w1 : (Jvm.Cond.methodLink own i Lib.objectInit).before a0 Z = true) (w2 : (Jvm.Cond.instanceMethod Lib.objectInit).before a0 Z = true) (w3 : (Jvm.Cond.code Lib.objectInit ⟨#[0xb1]⟩ 1 none).before a0 Z = true)
    {a : Addr} (hsz : Ls.size = ml) (hf : 1 ≤ R.frames) (hW : 0 + (st.map fun v => v.category).sum ≤ wL) (hl : wL + 12 ≤ R.locals) (hp : pc + 3 = pc') (W : Wp p l e R s m args below meth c n0 Q h k n (mkF m pc' Ls st)) : Wp p l e R s m args below meth c n0 Q h k n (mkF m pc Ls (.ref a :: st)) := fun T locs X eT N => by
  subst hp
  obtain ⟨T', X', e', st'⟩ := initO X C.1 C.2.1 C.2.2.2.2.1 w1 w2 w3 eT (g := mkF m pc Ls (.ref a :: st)) rfl (by rw [C.2.2.2.1]; exact hsz) rfl (hb C.2.2.1 hd) hf (W := wL) hW hl
  obtain ⟨s₂, o, q, r⟩ := W T' locs X' e' N
  exact ⟨s₂, o, st' _ q, r⟩
/-! arrays: of ints (of any narrow kind), of longs -/
def AI (Z : State) (h : Heap) (a : Addr) (ty : FieldType) (xs : List Int32) : Prop := ∃ cl : Cell, Arr Z h a cl ty ∧ cl.slots = (xs.map Value.int).toArray ∧ xs.length < 2 ^ 31
def AJ (Z : State) (h : Heap) (a : Addr) (xs : List Int64) : Prop := ∃ cl : Cell, Arr Z h a cl .long ∧ cl.slots = (xs.map Value.long).toArray ∧ xs.length < 2 ^ 31
theorem AI.lt {a : Addr} {ty : FieldType} {xs : List Int32} (A : AI Z h a ty xs) : a < h.size := by obtain ⟨cl, A, -⟩ := A; exact A.lt
theorem AJ.lt {a : Addr} {xs : List Int64} (A : AJ Z h a xs) : a < h.size := by obtain ⟨cl, A, -⟩ := A; exact A.lt
theorem AI.ext {h' : Heap} {a : Addr} {ty : FieldType} {xs : List Int32} (A : AI Z h a ty xs) (E : Ext h h') : AI Z h' a ty xs := by obtain ⟨cl, A, r⟩ := A; exact ⟨cl, A.ext E, r⟩
theorem AJ.ext {h' : Heap} {a : Addr} {xs : List Int64} (A : AJ Z h a xs) (E : Ext h h') : AJ Z h' a xs := by obtain ⟨cl, A, r⟩ := A; exact ⟨cl, A.ext E, r⟩
theorem AI.other {h' : Heap} {a b : Addr} {sl : Nat} {v : Value} {ty : FieldType} {xs : List Int32} (A : AI Z h a ty xs) (W : Wr h h' b sl v) (q : a ≠ b) : AI Z h' a ty xs := by obtain ⟨cl, A, r⟩ := A; exact ⟨cl, A.other W q, r⟩
theorem AJ.other {h' : Heap} {a b : Addr} {sl : Nat} {v : Value} {xs : List Int64} (A : AJ Z h a xs) (W : Wr h h' b sl v) (q : a ≠ b) : AJ Z h' a xs := by obtain ⟨cl, A, r⟩ := A; exact ⟨cl, A.other W q, r⟩
theorem AI.keep {h' : Heap} {a : Addr} {ws : List Addr} {ty : FieldType} {xs : List Int32} (A : AI Z h a ty xs) (K : Keep h h' ws) (q : a ∉ ws) : AI Z h' a ty xs := by obtain ⟨cl, A, r⟩ := A; exact ⟨cl, ⟨K.2.1 a cl A.1 q, A.2⟩, r⟩
theorem AJ.keep {h' : Heap} {a : Addr} {ws : List Addr} {xs : List Int64} (A : AJ Z h a xs) (K : Keep h h' ws) (q : a ∉ ws) : AJ Z h' a xs := by obtain ⟨cl, A, r⟩ := A; exact ⟨cl, ⟨K.2.1 a cl A.1 q, A.2⟩, r⟩
theorem AI.same {h' : Heap} {a : Addr} {i : Nat} {x : Int32} {ty : FieldType} {xs : List Int32} (A : AI Z h a ty xs) (W : Wr h h' a i (.int x)) : AI Z h' a ty (xs.set i x) := by
  obtain ⟨cl, A, r1, r2⟩ := A
  exact ⟨_, A.same W, by simp [Cell.setSlot, r1, List.map_set], by simpa using r2⟩
theorem AJ.same {h' : Heap} {a : Addr} {i : Nat} {x : Int64} {xs : List Int64} (A : AJ Z h a xs) (W : Wr h h' a i (.long x)) : AJ Z h' a (xs.set i x) := by
  obtain ⟨cl, A, r1, r2⟩ := A
  exact ⟨_, A.same W, by simp [Cell.setSlot, r1, List.map_set], by simpa using r2⟩
theorem own_iaload (C : Cx p s m meth c Z cd ml ret own nm) {a : Addr} {j v : Int32} {i : Nat} {xs : List Int32} (hd : decode cd pc = .ok (.iaload, 1)) (A : AI Z h a .int xs) (hj : ¬ j < 0) (hi : j.toNatClampNeg = i) (hv : xs[i]? = some v) (hp : pc + 1 = pc') (W : Wp p l e R s m args below meth c n0 Q h k n (mkF m pc' Ls (.int v :: st))) : Wp p l e R s m args below meth c n0 Q h k n (mkF m pc Ls (.int j :: .ref a :: st)) := by
  subst hp hi
  obtain ⟨cl, A, r1, r2⟩ := A
  have hlt := (List.getElem?_eq_some_iff.mp hv).1
  exact own_liftX (fun T locs X eT t q => X.iaload C.1 (j := j) (v := .int v) (by rw [eT]; exact A.1) (State.isArrayOf_alike C.2.1.alike A.2.1) A.2.2 (fun z => z.elim hj fun y => by rw [r1] at y; simp at y; omega) (by rw [r1]; simp [hv]) (g := mkF m pc Ls (.int j :: .ref a :: st)) rfl rfl (hb C.2.2.1 hd) t q) W
theorem own_baload (C : Cx p s m meth c Z cd ml ret own nm) {a : Addr} {j v : Int32} {i : Nat} {xs : List Int32} (hd : decode cd pc = .ok (.baload, 1)) (A : AI Z h a .byte xs) (hj : ¬ j < 0) (hi : j.toNatClampNeg = i) (hv : xs[i]? = some v) (hp : pc + 1 = pc') (W : Wp p l e R s m args below meth c n0 Q h k n (mkF m pc' Ls (.int v :: st))) : Wp p l e R s m args below meth c n0 Q h k n (mkF m pc Ls (.int j :: .ref a :: st)) := by
  subst hp hi
  obtain ⟨cl, A, r1, r2⟩ := A
  have hlt := (List.getElem?_eq_some_iff.mp hv).1
  exact own_liftX (fun T locs X eT t q => X.baloadBytes C.1 (j := j) (v := .int v) (by rw [eT]; exact A.1) (State.isArrayOf_alike C.2.1.alike A.2.1) A.2.2 (fun z => z.elim hj fun y => by rw [r1] at y; simp at y; omega) (by rw [r1]; simp [hv]) (g := mkF m pc Ls (.int j :: .ref a :: st)) rfl rfl (hb C.2.2.1 hd) t q) W
theorem own_laload (C : Cx p s m meth c Z cd ml ret own nm) {a : Addr} {j : Int32} {v : Int64} {i : Nat} {xs : List Int64} (hd : decode cd pc = .ok (.laload, 1)) (A : AJ Z h a xs) (hj : ¬ j < 0) (hi : j.toNatClampNeg = i) (hv : xs[i]? = some v) (hp : pc + 1 = pc') (W : Wp p l e R s m args below meth c n0 Q h k n (mkF m pc' Ls (.long v :: st))) : Wp p l e R s m args below meth c n0 Q h k n (mkF m pc Ls (.int j :: .ref a :: st)) := by
  subst hp hi
  obtain ⟨cl, A, r1, r2⟩ := A
  have hlt := (List.getElem?_eq_some_iff.mp hv).1
  exact own_liftX (fun T locs X eT t q => X.laload C.1 (j := j) (v := .long v) (by rw [eT]; exact A.1) (State.isArrayOf_alike C.2.1.alike A.2.1) A.2.2 (fun z => z.elim hj fun y => by rw [r1] at y; simp at y; omega) (by rw [r1]; simp [hv]) (g := mkF m pc Ls (.int j :: .ref a :: st)) rfl rfl (hb C.2.2.1 hd) t q) W
theorem own_lenI (C : Cx p s m meth c Z cd ml ret own nm) {a : Addr} {v : Int32} {ty : FieldType} {xs : List Int32} (hd : decode cd pc = .ok (.arraylength, 1)) (A : AI Z h a ty xs) (hv : xs.length.toInt32 = v) (hp : pc + 1 = pc') (W : Wp p l e R s m args below meth c n0 Q h k n (mkF m pc' Ls (.int v :: st))) : Wp p l e R s m args below meth c n0 Q h k n (mkF m pc Ls (.ref a :: st)) := by
  subst hp hv
  obtain ⟨cl, A, r1, r2⟩ := A
  have e1 : cl.slots.size = xs.length := by rw [r1]; simp
  exact own_liftX (fun T locs X eT t q => X.arraylength C.1 (by rw [eT]; exact A.1) (State.isArrayOf_alike C.2.1.alike A.2.1) (g := mkF m pc Ls (.ref a :: st)) rfl rfl (hb C.2.2.1 hd) t (by rw [e1]; exact q)) W
theorem own_lenJ (C : Cx p s m meth c Z cd ml ret own nm) {a : Addr} {v : Int32} {xs : List Int64} (hd : decode cd pc = .ok (.arraylength, 1)) (A : AJ Z h a xs) (hv : xs.length.toInt32 = v) (hp : pc + 1 = pc') (W : Wp p l e R s m args below meth c n0 Q h k n (mkF m pc' Ls (.int v :: st))) : Wp p l e R s m args below meth c n0 Q h k n (mkF m pc Ls (.ref a :: st)) := by
  subst hp hv
  obtain ⟨cl, A, r1, r2⟩ := A
  have e1 : cl.slots.size = xs.length := by rw [r1]; simp
  exact own_liftX (fun T locs X eT t q => X.arraylength C.1 (by rw [eT]; exact A.1) (State.isArrayOf_alike C.2.1.alike A.2.1) (g := mkF m pc Ls (.ref a :: st)) rfl rfl (hb C.2.2.1 hd) t (by rw [e1]; exact q)) W
theorem own_iastore (C : Cx p s m meth c Z cd ml ret own nm) {a : Addr} {j x : Int32} {i : Nat} {xs ys : List Int32} (hd : decode cd pc = .ok (.iastore, 1)) (A : AI Z h a .int xs) (hj : ¬ j < 0) (hi : j.toNatClampNeg = i) (hlt : i < xs.length) (hys : xs.set i x = ys) (ha : n0 ≤ a) (hp : pc + 1 = pc') (W : ∀ h', Wr h h' a i (.int x) → AI Z h' a .int ys → Wp p l e R s m args below meth c n0 Q h' k n (mkF m pc' Ls st)) : Wp p l e R s m args below meth c n0 Q h k n (mkF m pc Ls (.int x :: .int j :: .ref a :: st)) := fun T locs X eT N => by
  subst hp hi hys
  have A' := A
  obtain ⟨cl, A, r1, r2⟩ := A
  obtain ⟨T', h', X', e', Wr', st'⟩ := stI X C.1 C.2.1 eT A (j := j) (x := x) (fun z => z.elim hj fun y => by rw [r1] at y; simp at y; omega) (g := mkF m pc Ls (.int x :: .int j :: .ref a :: st)) rfl rfl (hb C.2.2.1 hd)
  obtain ⟨s₂, o, q, r⟩ := W h' Wr' (A'.same Wr') T' _ X' e' (Fr.snoc X' N ha)
  exact ⟨s₂, o, st' _ q, r⟩
theorem own_lastore (C : Cx p s m meth c Z cd ml ret own nm) {a : Addr} {j : Int32} {x : Int64} {i : Nat} {xs ys : List Int64} (hd : decode cd pc = .ok (.lastore, 1)) (A : AJ Z h a xs) (hj : ¬ j < 0) (hi : j.toNatClampNeg = i) (hlt : i < xs.length) (hys : xs.set i x = ys) (ha : n0 ≤ a) (hp : pc + 1 = pc') (W : ∀ h', Wr h h' a i (.long x) → AJ Z h' a ys → Wp p l e R s m args below meth c n0 Q h' k n (mkF m pc' Ls st)) : Wp p l e R s m args below meth c n0 Q h k n (mkF m pc Ls (.long x :: .int j :: .ref a :: st)) := fun T locs X eT N => by
  subst hp hi hys
  have A' := A
  obtain ⟨cl, A, r1, r2⟩ := A
  obtain ⟨T', h', X', e', Wr', st'⟩ := stJ X C.1 C.2.1 eT A (j := j) (x := x) (fun z => z.elim hj fun y => by rw [r1] at y; simp at y; omega) (g := mkF m pc Ls (.long x :: .int j :: .ref a :: st)) rfl rfl (hb C.2.2.1 hd)
  obtain ⟨s₂, o, q, r⟩ := W h' Wr' (A'.same Wr') T' _ X' e' (Fr.snoc X' N ha)
  exact ⟨s₂, o, st' _ q, r⟩
theorem own_bastore (C : Cx p s m meth c Z cd ml ret own nm) {a : Addr} {j x : Int32} {i : Nat} {xs ys : List Int32} (hd : decode cd pc = .ok (.bastore, 1)) (A : AI Z h a .byte xs) (hj : ¬ j < 0) (hi : j.toNatClampNeg = i) (hlt : i < xs.length) (hys : xs.set i (nar .byte x) = ys) (ha : n0 ≤ a) (hp : pc + 1 = pc') (W : ∀ h', Wr h h' a i (.int (nar .byte x)) → AI Z h' a .byte ys → Wp p l e R s m args below meth c n0 Q h' k n (mkF m pc' Ls st)) : Wp p l e R s m args below meth c n0 Q h k n (mkF m pc Ls (.int x :: .int j :: .ref a :: st)) := fun T locs X eT N => by
  subst hp hi hys
  have A' := A
  obtain ⟨cl, A, r1, r2⟩ := A
  obtain ⟨T', h', X', e', Wr', st'⟩ := stB X C.1 C.2.1 eT A (j := j) (x := x) (fun z => z.elim hj fun y => by rw [r1] at y; simp at y; omega) (g := mkF m pc Ls (.int x :: .int j :: .ref a :: st)) rfl rfl (hb C.2.2.1 hd)
  obtain ⟨s₂, o, q, r⟩ := W h' Wr' (A'.same Wr') T' _ X' e' (Fr.snoc X' N ha)
  exact ⟨s₂, o, st' _ q, r⟩
theorem own_newI (C : Cx p s m meth c Z cd ml ret own nm) {aty : ArrayType} {ty : FieldType} {z : Int32} {len cap : Nat} (hd : decode cd pc = .ok (.newarray aty, 2)) (hty : newarray.typeOf aty = ty) (hdv : defaultValue ty = .int 0) (w : (Jvm.Cond.arrayClass ty).before a0 Z = true) (hz : ¬ z < 0) (hlen : z.toNatClampNeg = len) (hcap : len ≤ cap) (hb8 : cap * 8 ≤ 536870912) (hc : k + 1 ≤ R.cells) (hl : n + cap ≤ R.slots) (hp : pc + 2 = pc')
    (W : ∀ h' a, a = h.size → Ext h h' → AI Z h' a ty (List.replicate len 0) → Wp p l e R s m args below meth c n0 Q h' (k + 1) (n + cap) (mkF m pc' Ls (.ref a :: st))) : Wp p l e R s m args below meth c n0 Q h k n (mkF m pc Ls (.int z :: st)) := fun T locs X eT N => by
  subst hp hlen hty
  obtain ⟨T', h', cA, X', e', E', A', st'⟩ := newP X C.1 C.2.1 w eT (g := mkF m pc Ls (.int z :: st)) rfl (hb C.2.2.1 hd) rfl hz hcap hb8 hc hl
  obtain ⟨s₂, o, q, r⟩ := W h' h.size rfl E' ⟨_, A', by simp [newA, hdv], by simp; exact (back32 hz).2⟩ T' _ X' e' N
  exact ⟨s₂, o, st' _ q, r⟩
theorem own_newJ (C : Cx p s m meth c Z cd ml ret own nm) {z : Int32} {len cap : Nat} (hd : decode cd pc = .ok (.newarray .long, 2)) (w : (Jvm.Cond.arrayClass .long).before a0 Z = true) (hz : ¬ z < 0) (hlen : z.toNatClampNeg = len) (hcap : len ≤ cap) (hb8 : cap * 8 ≤ 536870912) (hc : k + 1 ≤ R.cells) (hl : n + cap ≤ R.slots) (hp : pc + 2 = pc')
    (W : ∀ h' a, a = h.size → Ext h h' → AJ Z h' a (List.replicate len 0) → Wp p l e R s m args below meth c n0 Q h' (k + 1) (n + cap) (mkF m pc' Ls (.ref a :: st))) : Wp p l e R s m args below meth c n0 Q h k n (mkF m pc Ls (.int z :: st)) := fun T locs X eT N => by
  subst hp hlen
  obtain ⟨T', h', cA, X', e', E', A', st'⟩ := newP X C.1 C.2.1 (aty := .long) w eT (g := mkF m pc Ls (.int z :: st)) rfl (hb C.2.2.1 hd) rfl hz hcap hb8 hc hl
  obtain ⟨s₂, o, q, r⟩ := W h' h.size rfl E' ⟨_, A', by simp [newA, newarray.typeOf, defaultValue], by simp; exact (back32 hz).2⟩ T' _ X' e' N
  exact ⟨s₂, o, st' _ q, r⟩
/-! calls -/
theorem own_callS (C : Cx p s m meth c Z cd ml ret own nm) {i : Nat} {y : MethodName} {bytes : ByteArray} {mL wL : Nat} {rt : Option FieldType} {rm : Room} {as : Array Value} {Qc : Option Value → Heap → Prop} {argsL rest : List Value}
    (M : Met l y bytes mL rt [] rm Z n0 as h Qc)
    (hd : decode cd pc = .ok (.invokestatic i, 3)) (w1 : (Jvm.Cond.methodLink own i y).before a0 Z = true) (w2 : (Jvm.Cond.static y).before a0 Z = true) (w3 : (Jvm.Cond.initialized y.cls).before a0 Z = true) (w4 : (Jvm.Cond.code y bytes mL rt).before a0 Z = true)
    (hy : y.cls ≠ "java/lang/invoke/MethodHandle" ∧ y.cls ≠ "java/lang/invoke/VarHandle") (hfr : rm.frames + 1 ≤ R.frames) (hlo : wL + (mL + 11) + rm.locals ≤ R.locals) (hsz : Ls.size = ml) (hlen : ∀ sig, parseMethodDescriptor y.desc = some sig → argsL.length = sig.parameters.length)
    (hst : st = argsL.reverse ++ rest) (has : argsL.toArray = as) (hW : 0 + (rest.map fun v => v.category).sum ≤ wL) (hc : k + rm.cells ≤ R.cells) (hs : n + rm.slots ≤ R.slots) (hp : pc + 3 = pc')
    (W : ∀ v h', Qc v h' → Wp p l e R s m args below meth c n0 Q h' (k + rm.cells) (n + rm.slots) (mkF m pc' Ls (v.toList ++ rest))) : Wp p l e R s m args below meth c n0 Q h k n (mkF m pc Ls st) := fun T locs X eT N => by
  subst hp has
  obtain ⟨_, _, ⟨T', L', k', n'⟩, -, X', ⟨Lc, hQ, l1, y1, z1⟩, st'⟩ := Jvm.LawKit.callS X C.1 (y := y) C.2.2.2.2.1 (mvT C.2.1 w1) (mvT C.2.1 w2) (mvT C.2.1 w3) (mvT C.2.1 w4) hy (backOf (W := wL) (Q := fun v h L => Qc v h ∧ Fr n0 L) M C.2.1 w4 w3 hfr hlo) (g := mkF m pc Ls st) rfl (by rw [C.2.2.2.1]; exact hsz) (argsL := argsL) (rest := rest) hlen hst hW (hb C.2.2.1 hd) (fun _ _ => ⟨rfl, eT, hc, hs⟩)
  dsimp only [Pt.U, Pt.locs, Pt.cells, Pt.slots] at X' l1 y1 z1 st' hQ
  subst l1 y1 z1
  obtain ⟨s₂, o, q, r⟩ := W _ _ hQ.1 T' _ X' rfl (Fr.app N hQ.2)
  exact ⟨s₂, o, st' _ q, r⟩
theorem own_callI (C : Cx p s m meth c Z cd ml ret own nm) {i : Nat} {K : String} {dsc : String} {bytes : ByteArray} {mL wL : Nat} {rm : Room} {as : Array Value} {Qc : Option Value → Heap → Prop} {argsL rest : List Value} {a : Addr}
    (M : Met l ⟨K, "<init>", dsc⟩ bytes mL none [] rm Z n0 as h Qc)
    (hd : decode cd pc = .ok (.invokespecial i, 3)) (w1 : (Jvm.Cond.methodLink own i ⟨K, "<init>", dsc⟩).before a0 Z = true) (w2 : (Jvm.Cond.instanceMethod ⟨K, "<init>", dsc⟩).before a0 Z = true) (w3 : (Jvm.Cond.initialized K).before a0 Z = true) (w4 : (Jvm.Cond.code ⟨K, "<init>", dsc⟩ bytes mL none).before a0 Z = true)
    (hy : K ≠ "java/lang/invoke/MethodHandle" ∧ K ≠ "java/lang/invoke/VarHandle") (hfr : rm.frames + 1 ≤ R.frames) (hlo : wL + (mL + 11) + rm.locals ≤ R.locals) (hsz : Ls.size = ml) (hlen : ∀ sig, parseMethodDescriptor dsc = some sig → argsL.length = sig.parameters.length)
    (hst : st = argsL.reverse ++ .ref a :: rest) (has : (Value.ref a :: argsL).toArray = as) (hW : 0 + (rest.map fun v => v.category).sum ≤ wL) (hc : k + rm.cells ≤ R.cells) (hs : n + rm.slots ≤ R.slots) (hp : pc + 3 = pc')
    (W : ∀ v h', Qc v h' → Wp p l e R s m args below meth c n0 Q h' (k + rm.cells) (n + rm.slots) (mkF m pc' Ls (v.toList ++ rest))) : Wp p l e R s m args below meth c n0 Q h k n (mkF m pc Ls st) := fun T locs X eT N => by
  subst hp has
  obtain ⟨_, _, ⟨T', L', k', n'⟩, -, X', ⟨Lc, hQ, l1, y1, z1⟩, st'⟩ := X.specialBack C.1 (y := ⟨K, "<init>", dsc⟩) rfl C.2.2.2.2.1 (mvT C.2.1 w1) (mvT C.2.1 w2) (mvT C.2.1 w4) hy (backOf (W := wL) (Q := fun v h L => Qc v h ∧ Fr n0 L) M C.2.1 w4 w3 hfr hlo) (g := mkF m pc Ls st) rfl (by rw [C.2.2.2.1]; exact hsz) (Steps.refl _) (a := a) (argsL := argsL) (rest := rest) hlen hst hW (hb C.2.2.1 hd) (fun _ _ => ⟨rfl, eT, hc, hs⟩)
  dsimp only [Pt.U, Pt.locs, Pt.cells, Pt.slots] at X' l1 y1 z1 st' hQ
  subst l1 y1 z1
  obtain ⟨s₂, o, q, r⟩ := W _ _ hQ.1 T' _ X' rfl (Fr.app N hQ.2)
  exact ⟨s₂, o, st'.trans q, r⟩
theorem own_callV (C : Cx p s m meth c Z cd ml ret own nm) {i : Nat} {y : MethodName} {bytes : ByteArray} {mL wL : Nat} {rt : Option FieldType} {rm : Room} {as : Array Value} {Qc : Option Value → Heap → Prop} {argsL rest : List Value} {a : Addr}
    (M : Met l y bytes mL rt [] rm Z n0 as h Qc) (E : Exa Z h a y.cls)
    (hd : decode cd pc = .ok (.invokevirtual i, 3)) (w1 : (Jvm.Cond.methodLink own i y).before a0 Z = true) (w2 : (Jvm.Cond.declares y).before a0 Z = true) (w5 : (Jvm.Cond.selects y.cls y y).before a0 Z = true) (w6 : (Jvm.Cond.instanceMethod y).before a0 Z = true) (w3 : (Jvm.Cond.initialized y.cls).before a0 Z = true) (w4 : (Jvm.Cond.code y bytes mL rt).before a0 Z = true)
    (hy : y.cls ≠ "java/lang/invoke/MethodHandle" ∧ y.cls ≠ "java/lang/invoke/VarHandle") (hfr : rm.frames + 1 ≤ R.frames) (hlo : wL + (mL + 11) + rm.locals ≤ R.locals) (hsz : Ls.size = ml) (hlen : ∀ sig, parseMethodDescriptor y.desc = some sig → argsL.length = sig.parameters.length)
    (hst : st = argsL.reverse ++ .ref a :: rest) (has : (Value.ref a :: argsL).toArray = as) (hW : 0 + (rest.map fun v => v.category).sum ≤ wL) (hc : k + rm.cells ≤ R.cells) (hs : n + rm.slots ≤ R.slots) (hp : pc + 3 = pc')
    (W : ∀ v h', Qc v h' → Wp p l e R s m args below meth c n0 Q h' (k + rm.cells) (n + rm.slots) (mkF m pc' Ls (v.toList ++ rest))) : Wp p l e R s m args below meth c n0 Q h k n (mkF m pc Ls st) := fun T locs X eT N => by
  subst hp has
  obtain ⟨cq, kq, qa, qb, qc⟩ := isOf C.2.1 eT E
  obtain ⟨_, _, ⟨T', L', k', n'⟩, -, X', ⟨Lc, hQ, l1, y1, z1⟩, st'⟩ := X.virtualBack C.1 (y := y) (z := y) C.2.2.2.2.1 (mvT C.2.1 w1) (mvT C.2.1 w2) (notFace_of_selects (args := #[]) (mvT C.2.1 w5)) (mvT C.2.1 w5) (mvT C.2.1 w6) hy (backOf (W := wL) (Q := fun v h L => Qc v h ∧ Fr n0 L) M C.2.1 w4 w3 hfr hlo) qa qc (g := mkF m pc Ls st) rfl (by rw [C.2.2.2.1]; exact hsz) (Steps.refl _) (argsL := argsL) (rest := rest) hlen hst hW (hb C.2.2.1 hd) (fun _ _ => ⟨rfl, eT, hc, hs⟩)
  dsimp only [Pt.U, Pt.locs, Pt.cells, Pt.slots] at X' l1 y1 z1 st' hQ
  subst l1 y1 z1
  obtain ⟨s₂, o, q, r⟩ := W _ _ hQ.1 T' _ X' rfl (Fr.app N hQ.2)
  exact ⟨s₂, o, st'.trans q, r⟩
theorem own_callP (C : Cx p s m meth c Z cd ml ret own nm) {i : Nat} {y : MethodName} {bytes : ByteArray} {mL wL : Nat} {rt : Option FieldType} {rm : Room} {as : Array Value} {Qc : Option Value → Heap → Prop} {argsL rest : List Value} {a : Addr}
    (M : Met l y bytes mL rt [] rm Z n0 as h Qc) (E : Exa Z h a y.cls)
    (hd : decode cd pc = .ok (.invokevirtual i, 3)) (w1 : (Jvm.Cond.methodLink own i y).before a0 Z = true) (w2 : (Jvm.Cond.privateMethod y).before a0 Z = true) (w5 : (Jvm.Cond.selects y.cls y y).before a0 Z = true) (w6 : (Jvm.Cond.instanceMethod y).before a0 Z = true) (w3 : (Jvm.Cond.initialized y.cls).before a0 Z = true) (w4 : (Jvm.Cond.code y bytes mL rt).before a0 Z = true)
    (hy : y.cls ≠ "java/lang/invoke/MethodHandle" ∧ y.cls ≠ "java/lang/invoke/VarHandle") (hfr : rm.frames + 1 ≤ R.frames) (hlo : wL + (mL + 11) + rm.locals ≤ R.locals) (hsz : Ls.size = ml) (hlen : ∀ sig, parseMethodDescriptor y.desc = some sig → argsL.length = sig.parameters.length)
    (hst : st = argsL.reverse ++ .ref a :: rest) (has : (Value.ref a :: argsL).toArray = as) (hW : 0 + (rest.map fun v => v.category).sum ≤ wL) (hc : k + rm.cells ≤ R.cells) (hs : n + rm.slots ≤ R.slots) (hp : pc + 3 = pc')
    (W : ∀ v h', Qc v h' → Wp p l e R s m args below meth c n0 Q h' (k + rm.cells) (n + rm.slots) (mkF m pc' Ls (v.toList ++ rest))) : Wp p l e R s m args below meth c n0 Q h k n (mkF m pc Ls st) := fun T locs X eT N => by
  subst hp has
  obtain ⟨cq, q1, q2⟩ := E.cell
  obtain ⟨_, _, ⟨T', L', k', n'⟩, -, X', ⟨Lc, hQ, l1, y1, z1⟩, st'⟩ := X.privateBack C.1 (y := y) C.2.2.2.2.1 (mvT C.2.1 w1) (mvT C.2.1 w6) (mvT C.2.1 w5) (Cond.privateMethod_at (mvP C.2.1 w2 (args := #[]))) (mvT C.2.1 w4) hy (backOf (W := wL) (Q := fun v h L => Qc v h ∧ Fr n0 L) M C.2.1 w4 w3 hfr hlo) (g := mkF m pc Ls st) rfl (by rw [C.2.2.2.1]; exact hsz) (Steps.refl _) (a := a) (by rw [eT]; exact q1) q2 (argsL := argsL) (rest := rest) hlen hst hW (hb C.2.2.1 hd) (fun _ _ => ⟨rfl, eT, hc, hs⟩)
  dsimp only [Pt.U, Pt.locs, Pt.cells, Pt.slots] at X' l1 y1 z1 st' hQ
  subst l1 y1 z1
  obtain ⟨s₂, o, q, r⟩ := W _ _ hQ.1 T' _ X' rfl (Fr.app N hQ.2)
  exact ⟨s₂, o, st'.trans q, r⟩
end OwnKit
theorem d1_0 : decode prog_6_method_9_code 0 = .ok (.iconst 0, 1) := by decide +kernel
theorem d1_1 : decode prog_6_method_9_code 1 = .ok (.istore_n 3, 1) := by decide +kernel
theorem d1_2 : decode prog_6_method_9_code 2 = .ok (.iload_n 3, 1) := by decide +kernel
theorem d1_3 : decode prog_6_method_9_code 3 = .ok (.iconst 5, 1) := by decide +kernel
theorem d1_4 : decode prog_6_method_9_code 4 = .ok (.if_icmp .ge 19, 3) := by decide +kernel
theorem d1_7 : decode prog_6_method_9_code 7 = .ok (.aload_n 0, 1) := by decide +kernel
theorem d1_8 : decode prog_6_method_9_code 8 = .ok (.iload_n 3, 1) := by decide +kernel
theorem d1_9 : decode prog_6_method_9_code 9 = .ok (.aload_n 1, 1) := by decide +kernel
theorem d1_10 : decode prog_6_method_9_code 10 = .ok (.iload_n 3, 1) := by decide +kernel
theorem d1_11 : decode prog_6_method_9_code 11 = .ok (.laload, 1) := by decide +kernel
theorem d1_12 : decode prog_6_method_9_code 12 = .ok (.aload_n 2, 1) := by decide +kernel
theorem d1_13 : decode prog_6_method_9_code 13 = .ok (.iload_n 3, 1) := by decide +kernel
theorem d1_14 : decode prog_6_method_9_code 14 = .ok (.laload, 1) := by decide +kernel
theorem d1_15 : decode prog_6_method_9_code 15 = .ok (.ladd, 1) := by decide +kernel
theorem d1_16 : decode prog_6_method_9_code 16 = .ok (.lastore, 1) := by decide +kernel
theorem d1_17 : decode prog_6_method_9_code 17 = .ok (.iinc 3 1, 3) := by decide +kernel
theorem d1_20 : decode prog_6_method_9_code 20 = .ok (.goto (-18), 3) := by decide +kernel
theorem d1_23 : decode prog_6_method_9_code 23 = .ok (.return_, 1) := by decide +kernel
theorem pn1 : plainName "com/example/libsworn/libsworn/P256Field" = true := by first | (simp [plainName, overriddenIn]; done) | decide +kernel
theorem ef1 (m : MethodId) (x0 : Addr) (x1 : Addr) (x2 : Addr) : entryFrame m #[(.ref x0), (.ref x1), (.ref x2)] 4 = mkF m 0 #[.val (.ref x0), .val (.ref x1), .val (.ref x2), .unset] [] := by first | (simp [entryFrame, mkF, argsToLocals, Value.category]; done) | rfl
theorem own_ki_0 : Int32.ofInt (0) = (0 : Int32) := by decide
theorem own_ki_5 : Int32.ofInt (5) = (5 : Int32) := by decide
set_option maxRecDepth 65536 in
set_option maxHeartbeats 40000000 in
theorem own_add0 (l : Launch) (Z : State) (a0 : Array Value) (hw : ∀ d ∈ tables_1, d.before a0 Z = true) (r : Addr) (a : Addr) (b : Addr) (r0_ r1_ r2_ r3_ r4_ a0_ a1_ a2_ a3_ a4_ b0_ b1_ b2_ b3_ b4_ : Int64) (h0 : Heap) (n0 : Nat) (Z_ : n0 ≤ h0.size) (A_r : AJ Z h0 r [r0_, r1_, r2_, r3_, r4_]) (A_a : AJ Z h0 a [a0_, a1_, a2_, a3_, a4_]) (A_b : AJ Z h0 b [b0_, b1_, b2_, b3_, b4_]) (g_r : n0 ≤ r) (ne_r_a : r ≠ a) (ne_r_b : r ≠ b) (ne_a_b : a ≠ b) :
    Met l (⟨"com/example/libsworn/libsworn/P256Field", "add", "([J[J[J)V"⟩ : MethodName) prog_6_method_9_code 4 none [] ({ frames := 0, cells := 0, slots := 0, locals := 0 } : Room) Z n0 #[(.ref r), (.ref a), (.ref b)] h0 (fun v h => v = none ∧ Keep h0 h [r] ∧ AJ Z h r [(a0_ + b0_), (a1_ + b1_), (a2_ + b2_), (a3_ + b3_), (a4_ + b4_)]) := by
  refine own_met pn1 (fun m => ef1 m r a b) ?_
  intro p e s m below meth c C
  have K_ : Keep h0 h0 [r] := Keep.refl _ _
  refine own_iconst (pc' := 1) (v := (0 : Int32)) C d1_0 own_ki_0 rfl ?_
  refine own_istoreN (pc' := 2) (y := (0 : Int32)) (Ls' := #[.val (.ref r), .val (.ref a), .val (.ref b), .val (.int (0 : Int32))]) C d1_1 rfl rfl rfl ?_
  refine own_iloadN (pc' := 3) C d1_2 rfl rfl ?_
  refine own_iconst (pc' := 4) (v := (5 : Int32)) C d1_3 own_ki_5 rfl ?_
  refine own_icmp_ge (pt := 23) (pf := 7) C d1_4 (by decide) (by decide) rfl (fun q => absurd (by decide) q) (fun _ => ?_)
  refine own_aloadN (pc' := 8) C d1_7 rfl rfl rfl ?_
  refine own_iloadN (pc' := 9) C d1_8 rfl rfl ?_
  refine own_aloadN (pc' := 10) C d1_9 rfl rfl rfl ?_
  refine own_iloadN (pc' := 11) C d1_10 rfl rfl ?_
  refine own_laload (pc' := 12) (v := a0_) (i := 0) C d1_11 A_a (by decide) rfl rfl rfl ?_
  refine own_aloadN (pc' := 13) C d1_12 rfl rfl rfl ?_
  refine own_iloadN (pc' := 14) C d1_13 rfl rfl ?_
  refine own_laload (pc' := 15) (v := b0_) (i := 0) C d1_14 A_b (by decide) rfl rfl rfl ?_
  refine own_ladd (pc' := 16) C d1_15 rfl rfl ?_
  obtain ⟨y16, hy16⟩ : ∃ z : Int64, z = (a0_ + b0_) := ⟨_, rfl⟩
  refine own_lastore (pc' := 17) (i := 0) (ys := [y16, r1_, r2_, r3_, r4_]) C d1_16 A_r (by decide) rfl (Nat.le_of_ble_eq_true rfl) (by rw [hy16]; rfl) g_r rfl ?_
  intro h1 W1 A1_
  replace A_a := A_a.other W1 (Ne.symm ne_r_a)
  replace A_b := A_b.other W1 (Ne.symm ne_r_b)
  replace A_r := A1_
  replace Z_ : n0 ≤ _ := Nat.le_trans Z_ (Nat.le_of_eq W1.size.symm)
  replace K_ := K_.wr W1 (Or.inl (List.mem_of_getElem? (i := 0) rfl))
  refine own_iinc (pc' := 20) (v := (1 : Int32)) (Ls' := #[.val (.ref r), .val (.ref a), .val (.ref b), .val (.int (1 : Int32))]) C d1_17 rfl (by decide) rfl rfl ?_
  refine own_goto (pc' := 2) C d1_20 (by decide) (by decide) ?_
  refine own_iloadN (pc' := 3) C d1_2 rfl rfl ?_
  refine own_iconst (pc' := 4) (v := (5 : Int32)) C d1_3 own_ki_5 rfl ?_
  refine own_icmp_ge (pt := 23) (pf := 7) C d1_4 (by decide) (by decide) rfl (fun q => absurd (by decide) q) (fun _ => ?_)
  refine own_aloadN (pc' := 8) C d1_7 rfl rfl rfl ?_
  refine own_iloadN (pc' := 9) C d1_8 rfl rfl ?_
  refine own_aloadN (pc' := 10) C d1_9 rfl rfl rfl ?_
  refine own_iloadN (pc' := 11) C d1_10 rfl rfl ?_
  refine own_laload (pc' := 12) (v := a1_) (i := 1) C d1_11 A_a (by decide) rfl rfl rfl ?_
  refine own_aloadN (pc' := 13) C d1_12 rfl rfl rfl ?_
  refine own_iloadN (pc' := 14) C d1_13 rfl rfl ?_
  refine own_laload (pc' := 15) (v := b1_) (i := 1) C d1_14 A_b (by decide) rfl rfl rfl ?_
  refine own_ladd (pc' := 16) C d1_15 rfl rfl ?_
  obtain ⟨y16_2, hy16_2⟩ : ∃ z : Int64, z = (a1_ + b1_) := ⟨_, rfl⟩
  refine own_lastore (pc' := 17) (i := 1) (ys := [y16, y16_2, r2_, r3_, r4_]) C d1_16 A_r (by decide) rfl (Nat.le_of_ble_eq_true rfl) (by rw [hy16_2]; rfl) g_r rfl ?_
  intro h2 W2 A2_
  replace A_a := A_a.other W2 (Ne.symm ne_r_a)
  replace A_b := A_b.other W2 (Ne.symm ne_r_b)
  replace A_r := A2_
  replace Z_ : n0 ≤ _ := Nat.le_trans Z_ (Nat.le_of_eq W2.size.symm)
  replace K_ := K_.wr W2 (Or.inl (List.mem_of_getElem? (i := 0) rfl))
  refine own_iinc (pc' := 20) (v := (2 : Int32)) (Ls' := #[.val (.ref r), .val (.ref a), .val (.ref b), .val (.int (2 : Int32))]) C d1_17 rfl (by decide) rfl rfl ?_
  refine own_goto (pc' := 2) C d1_20 (by decide) (by decide) ?_
  refine own_iloadN (pc' := 3) C d1_2 rfl rfl ?_
  refine own_iconst (pc' := 4) (v := (5 : Int32)) C d1_3 own_ki_5 rfl ?_
  refine own_icmp_ge (pt := 23) (pf := 7) C d1_4 (by decide) (by decide) rfl (fun q => absurd (by decide) q) (fun _ => ?_)
  refine own_aloadN (pc' := 8) C d1_7 rfl rfl rfl ?_
  refine own_iloadN (pc' := 9) C d1_8 rfl rfl ?_
  refine own_aloadN (pc' := 10) C d1_9 rfl rfl rfl ?_
  refine own_iloadN (pc' := 11) C d1_10 rfl rfl ?_
  refine own_laload (pc' := 12) (v := a2_) (i := 2) C d1_11 A_a (by decide) rfl rfl rfl ?_
  refine own_aloadN (pc' := 13) C d1_12 rfl rfl rfl ?_
  refine own_iloadN (pc' := 14) C d1_13 rfl rfl ?_
  refine own_laload (pc' := 15) (v := b2_) (i := 2) C d1_14 A_b (by decide) rfl rfl rfl ?_
  refine own_ladd (pc' := 16) C d1_15 rfl rfl ?_
  obtain ⟨y16_3, hy16_3⟩ : ∃ z : Int64, z = (a2_ + b2_) := ⟨_, rfl⟩
  refine own_lastore (pc' := 17) (i := 2) (ys := [y16, y16_2, y16_3, r3_, r4_]) C d1_16 A_r (by decide) rfl (Nat.le_of_ble_eq_true rfl) (by rw [hy16_3]; rfl) g_r rfl ?_
  intro h3 W3 A3_
  replace A_a := A_a.other W3 (Ne.symm ne_r_a)
  replace A_b := A_b.other W3 (Ne.symm ne_r_b)
  replace A_r := A3_
  replace Z_ : n0 ≤ _ := Nat.le_trans Z_ (Nat.le_of_eq W3.size.symm)
  replace K_ := K_.wr W3 (Or.inl (List.mem_of_getElem? (i := 0) rfl))
  refine own_iinc (pc' := 20) (v := (3 : Int32)) (Ls' := #[.val (.ref r), .val (.ref a), .val (.ref b), .val (.int (3 : Int32))]) C d1_17 rfl (by decide) rfl rfl ?_
  refine own_goto (pc' := 2) C d1_20 (by decide) (by decide) ?_
  refine own_iloadN (pc' := 3) C d1_2 rfl rfl ?_
  refine own_iconst (pc' := 4) (v := (5 : Int32)) C d1_3 own_ki_5 rfl ?_
  refine own_icmp_ge (pt := 23) (pf := 7) C d1_4 (by decide) (by decide) rfl (fun q => absurd (by decide) q) (fun _ => ?_)
  refine own_aloadN (pc' := 8) C d1_7 rfl rfl rfl ?_
  refine own_iloadN (pc' := 9) C d1_8 rfl rfl ?_
  refine own_aloadN (pc' := 10) C d1_9 rfl rfl rfl ?_
  refine own_iloadN (pc' := 11) C d1_10 rfl rfl ?_
  refine own_laload (pc' := 12) (v := a3_) (i := 3) C d1_11 A_a (by decide) rfl rfl rfl ?_
  refine own_aloadN (pc' := 13) C d1_12 rfl rfl rfl ?_
  refine own_iloadN (pc' := 14) C d1_13 rfl rfl ?_
  refine own_laload (pc' := 15) (v := b3_) (i := 3) C d1_14 A_b (by decide) rfl rfl rfl ?_
  refine own_ladd (pc' := 16) C d1_15 rfl rfl ?_
  obtain ⟨y16_4, hy16_4⟩ : ∃ z : Int64, z = (a3_ + b3_) := ⟨_, rfl⟩
  refine own_lastore (pc' := 17) (i := 3) (ys := [y16, y16_2, y16_3, y16_4, r4_]) C d1_16 A_r (by decide) rfl (Nat.le_of_ble_eq_true rfl) (by rw [hy16_4]; rfl) g_r rfl ?_
  intro h4 W4 A4_
  replace A_a := A_a.other W4 (Ne.symm ne_r_a)
  replace A_b := A_b.other W4 (Ne.symm ne_r_b)
  replace A_r := A4_
  replace Z_ : n0 ≤ _ := Nat.le_trans Z_ (Nat.le_of_eq W4.size.symm)
  replace K_ := K_.wr W4 (Or.inl (List.mem_of_getElem? (i := 0) rfl))
  refine own_iinc (pc' := 20) (v := (4 : Int32)) (Ls' := #[.val (.ref r), .val (.ref a), .val (.ref b), .val (.int (4 : Int32))]) C d1_17 rfl (by decide) rfl rfl ?_
  refine own_goto (pc' := 2) C d1_20 (by decide) (by decide) ?_
  refine own_iloadN (pc' := 3) C d1_2 rfl rfl ?_
  refine own_iconst (pc' := 4) (v := (5 : Int32)) C d1_3 own_ki_5 rfl ?_
  refine own_icmp_ge (pt := 23) (pf := 7) C d1_4 (by decide) (by decide) rfl (fun q => absurd (by decide) q) (fun _ => ?_)
  refine own_aloadN (pc' := 8) C d1_7 rfl rfl rfl ?_
  refine own_iloadN (pc' := 9) C d1_8 rfl rfl ?_
  refine own_aloadN (pc' := 10) C d1_9 rfl rfl rfl ?_
  refine own_iloadN (pc' := 11) C d1_10 rfl rfl ?_
  refine own_laload (pc' := 12) (v := a4_) (i := 4) C d1_11 A_a (by decide) rfl rfl rfl ?_
  refine own_aloadN (pc' := 13) C d1_12 rfl rfl rfl ?_
  refine own_iloadN (pc' := 14) C d1_13 rfl rfl ?_
  refine own_laload (pc' := 15) (v := b4_) (i := 4) C d1_14 A_b (by decide) rfl rfl rfl ?_
  refine own_ladd (pc' := 16) C d1_15 rfl rfl ?_
  obtain ⟨y16_5, hy16_5⟩ : ∃ z : Int64, z = (a4_ + b4_) := ⟨_, rfl⟩
  refine own_lastore (pc' := 17) (i := 4) (ys := [y16, y16_2, y16_3, y16_4, y16_5]) C d1_16 A_r (by decide) rfl (Nat.le_of_ble_eq_true rfl) (by rw [hy16_5]; rfl) g_r rfl ?_
  intro h5 W5 A5_
  replace A_a := A_a.other W5 (Ne.symm ne_r_a)
  replace A_b := A_b.other W5 (Ne.symm ne_r_b)
  replace A_r := A5_
  replace Z_ : n0 ≤ _ := Nat.le_trans Z_ (Nat.le_of_eq W5.size.symm)
  replace K_ := K_.wr W5 (Or.inl (List.mem_of_getElem? (i := 0) rfl))
  refine own_iinc (pc' := 20) (v := (5 : Int32)) (Ls' := #[.val (.ref r), .val (.ref a), .val (.ref b), .val (.int (5 : Int32))]) C d1_17 rfl (by decide) rfl rfl ?_
  refine own_goto (pc' := 2) C d1_20 (by decide) (by decide) ?_
  refine own_iloadN (pc' := 3) C d1_2 rfl rfl ?_
  refine own_iconst (pc' := 4) (v := (5 : Int32)) C d1_3 own_ki_5 rfl ?_
  refine own_icmp_ge (pt := 23) (pf := 7) C d1_4 (by decide) (by decide) rfl (fun _ => ?_) (fun q => absurd q (by decide))
  refine own_vret C d1_23 (by decide) (by decide) ?_
  subst hy16 hy16_2 hy16_3 hy16_4 hy16_5
  exact ⟨rfl, K_, A_r⟩

set_option maxRecDepth 65536 in
set_option maxHeartbeats 40000000 in
theorem own_add1 (l : Launch) (Z : State) (a0 : Array Value) (hw : ∀ d ∈ tables_1, d.before a0 Z = true) (a : Addr) (b : Addr) (a0_ a1_ a2_ a3_ a4_ b0_ b1_ b2_ b3_ b4_ : Int64) (h0 : Heap) (n0 : Nat) (Z_ : n0 ≤ h0.size) (A_a : AJ Z h0 a [a0_, a1_, a2_, a3_, a4_]) (A_b : AJ Z h0 b [b0_, b1_, b2_, b3_, b4_]) (g_a : n0 ≤ a) (ne_a_b : a ≠ b) :
    Met l (⟨"com/example/libsworn/libsworn/P256Field", "add", "([J[J[J)V"⟩ : MethodName) prog_6_method_9_code 4 none [] ({ frames := 0, cells := 0, slots := 0, locals := 0 } : Room) Z n0 #[(.ref a), (.ref a), (.ref b)] h0 (fun v h => v = none ∧ Keep h0 h [a] ∧ AJ Z h a [(a0_ + b0_), (a1_ + b1_), (a2_ + b2_), (a3_ + b3_), (a4_ + b4_)]) := by
  refine own_met pn1 (fun m => ef1 m a a b) ?_
  intro p e s m below meth c C
  have K_ : Keep h0 h0 [a] := Keep.refl _ _
  refine own_iconst (pc' := 1) (v := (0 : Int32)) C d1_0 own_ki_0 rfl ?_
  refine own_istoreN (pc' := 2) (y := (0 : Int32)) (Ls' := #[.val (.ref a), .val (.ref a), .val (.ref b), .val (.int (0 : Int32))]) C d1_1 rfl rfl rfl ?_
  refine own_iloadN (pc' := 3) C d1_2 rfl rfl ?_
  refine own_iconst (pc' := 4) (v := (5 : Int32)) C d1_3 own_ki_5 rfl ?_
  refine own_icmp_ge (pt := 23) (pf := 7) C d1_4 (by decide) (by decide) rfl (fun q => absurd (by decide) q) (fun _ => ?_)
  refine own_aloadN (pc' := 8) C d1_7 rfl rfl rfl ?_
  refine own_iloadN (pc' := 9) C d1_8 rfl rfl ?_
  refine own_aloadN (pc' := 10) C d1_9 rfl rfl rfl ?_
  refine own_iloadN (pc' := 11) C d1_10 rfl rfl ?_
  refine own_laload (pc' := 12) (v := a0_) (i := 0) C d1_11 A_a (by decide) rfl rfl rfl ?_
  refine own_aloadN (pc' := 13) C d1_12 rfl rfl rfl ?_
  refine own_iloadN (pc' := 14) C d1_13 rfl rfl ?_
  refine own_laload (pc' := 15) (v := b0_) (i := 0) C d1_14 A_b (by decide) rfl rfl rfl ?_
  refine own_ladd (pc' := 16) C d1_15 rfl rfl ?_
  obtain ⟨y16, hy16⟩ : ∃ z : Int64, z = (a0_ + b0_) := ⟨_, rfl⟩
  refine own_lastore (pc' := 17) (i := 0) (ys := [y16, a1_, a2_, a3_, a4_]) C d1_16 A_a (by decide) rfl (Nat.le_of_ble_eq_true rfl) (by rw [hy16]; rfl) g_a rfl ?_
  intro h1 W1 A1_
  replace A_b := A_b.other W1 (Ne.symm ne_a_b)
  replace A_a := A1_
  replace Z_ : n0 ≤ _ := Nat.le_trans Z_ (Nat.le_of_eq W1.size.symm)
  replace K_ := K_.wr W1 (Or.inl (List.mem_of_getElem? (i := 0) rfl))
  refine own_iinc (pc' := 20) (v := (1 : Int32)) (Ls' := #[.val (.ref a), .val (.ref a), .val (.ref b), .val (.int (1 : Int32))]) C d1_17 rfl (by decide) rfl rfl ?_
  refine own_goto (pc' := 2) C d1_20 (by decide) (by decide) ?_
  refine own_iloadN (pc' := 3) C d1_2 rfl rfl ?_
  refine own_iconst (pc' := 4) (v := (5 : Int32)) C d1_3 own_ki_5 rfl ?_
  refine own_icmp_ge (pt := 23) (pf := 7) C d1_4 (by decide) (by decide) rfl (fun q => absurd (by decide) q) (fun _ => ?_)
  refine own_aloadN (pc' := 8) C d1_7 rfl rfl rfl ?_
  refine own_iloadN (pc' := 9) C d1_8 rfl rfl ?_
  refine own_aloadN (pc' := 10) C d1_9 rfl rfl rfl ?_
  refine own_iloadN (pc' := 11) C d1_10 rfl rfl ?_
  refine own_laload (pc' := 12) (v := a1_) (i := 1) C d1_11 A_a (by decide) rfl rfl rfl ?_
  refine own_aloadN (pc' := 13) C d1_12 rfl rfl rfl ?_
  refine own_iloadN (pc' := 14) C d1_13 rfl rfl ?_
  refine own_laload (pc' := 15) (v := b1_) (i := 1) C d1_14 A_b (by decide) rfl rfl rfl ?_
  refine own_ladd (pc' := 16) C d1_15 rfl rfl ?_
  obtain ⟨y16_2, hy16_2⟩ : ∃ z : Int64, z = (a1_ + b1_) := ⟨_, rfl⟩
  refine own_lastore (pc' := 17) (i := 1) (ys := [y16, y16_2, a2_, a3_, a4_]) C d1_16 A_a (by decide) rfl (Nat.le_of_ble_eq_true rfl) (by rw [hy16_2]; rfl) g_a rfl ?_
  intro h2 W2 A2_
  replace A_b := A_b.other W2 (Ne.symm ne_a_b)
  replace A_a := A2_
  replace Z_ : n0 ≤ _ := Nat.le_trans Z_ (Nat.le_of_eq W2.size.symm)
  replace K_ := K_.wr W2 (Or.inl (List.mem_of_getElem? (i := 0) rfl))
  refine own_iinc (pc' := 20) (v := (2 : Int32)) (Ls' := #[.val (.ref a), .val (.ref a), .val (.ref b), .val (.int (2 : Int32))]) C d1_17 rfl (by decide) rfl rfl ?_
  refine own_goto (pc' := 2) C d1_20 (by decide) (by decide) ?_
  refine own_iloadN (pc' := 3) C d1_2 rfl rfl ?_
  refine own_iconst (pc' := 4) (v := (5 : Int32)) C d1_3 own_ki_5 rfl ?_
  refine own_icmp_ge (pt := 23) (pf := 7) C d1_4 (by decide) (by decide) rfl (fun q => absurd (by decide) q) (fun _ => ?_)
  refine own_aloadN (pc' := 8) C d1_7 rfl rfl rfl ?_
  refine own_iloadN (pc' := 9) C d1_8 rfl rfl ?_
  refine own_aloadN (pc' := 10) C d1_9 rfl rfl rfl ?_
  refine own_iloadN (pc' := 11) C d1_10 rfl rfl ?_
  refine own_laload (pc' := 12) (v := a2_) (i := 2) C d1_11 A_a (by decide) rfl rfl rfl ?_
  refine own_aloadN (pc' := 13) C d1_12 rfl rfl rfl ?_
  refine own_iloadN (pc' := 14) C d1_13 rfl rfl ?_
  refine own_laload (pc' := 15) (v := b2_) (i := 2) C d1_14 A_b (by decide) rfl rfl rfl ?_
  refine own_ladd (pc' := 16) C d1_15 rfl rfl ?_
  obtain ⟨y16_3, hy16_3⟩ : ∃ z : Int64, z = (a2_ + b2_) := ⟨_, rfl⟩
  refine own_lastore (pc' := 17) (i := 2) (ys := [y16, y16_2, y16_3, a3_, a4_]) C d1_16 A_a (by decide) rfl (Nat.le_of_ble_eq_true rfl) (by rw [hy16_3]; rfl) g_a rfl ?_
  intro h3 W3 A3_
  replace A_b := A_b.other W3 (Ne.symm ne_a_b)
  replace A_a := A3_
  replace Z_ : n0 ≤ _ := Nat.le_trans Z_ (Nat.le_of_eq W3.size.symm)
  replace K_ := K_.wr W3 (Or.inl (List.mem_of_getElem? (i := 0) rfl))
  refine own_iinc (pc' := 20) (v := (3 : Int32)) (Ls' := #[.val (.ref a), .val (.ref a), .val (.ref b), .val (.int (3 : Int32))]) C d1_17 rfl (by decide) rfl rfl ?_
  refine own_goto (pc' := 2) C d1_20 (by decide) (by decide) ?_
  refine own_iloadN (pc' := 3) C d1_2 rfl rfl ?_
  refine own_iconst (pc' := 4) (v := (5 : Int32)) C d1_3 own_ki_5 rfl ?_
  refine own_icmp_ge (pt := 23) (pf := 7) C d1_4 (by decide) (by decide) rfl (fun q => absurd (by decide) q) (fun _ => ?_)
  refine own_aloadN (pc' := 8) C d1_7 rfl rfl rfl ?_
  refine own_iloadN (pc' := 9) C d1_8 rfl rfl ?_
  refine own_aloadN (pc' := 10) C d1_9 rfl rfl rfl ?_
  refine own_iloadN (pc' := 11) C d1_10 rfl rfl ?_
  refine own_laload (pc' := 12) (v := a3_) (i := 3) C d1_11 A_a (by decide) rfl rfl rfl ?_
  refine own_aloadN (pc' := 13) C d1_12 rfl rfl rfl ?_
  refine own_iloadN (pc' := 14) C d1_13 rfl rfl ?_
  refine own_laload (pc' := 15) (v := b3_) (i := 3) C d1_14 A_b (by decide) rfl rfl rfl ?_
  refine own_ladd (pc' := 16) C d1_15 rfl rfl ?_
  obtain ⟨y16_4, hy16_4⟩ : ∃ z : Int64, z = (a3_ + b3_) := ⟨_, rfl⟩
  refine own_lastore (pc' := 17) (i := 3) (ys := [y16, y16_2, y16_3, y16_4, a4_]) C d1_16 A_a (by decide) rfl (Nat.le_of_ble_eq_true rfl) (by rw [hy16_4]; rfl) g_a rfl ?_
  intro h4 W4 A4_
  replace A_b := A_b.other W4 (Ne.symm ne_a_b)
  replace A_a := A4_
  replace Z_ : n0 ≤ _ := Nat.le_trans Z_ (Nat.le_of_eq W4.size.symm)
  replace K_ := K_.wr W4 (Or.inl (List.mem_of_getElem? (i := 0) rfl))
  refine own_iinc (pc' := 20) (v := (4 : Int32)) (Ls' := #[.val (.ref a), .val (.ref a), .val (.ref b), .val (.int (4 : Int32))]) C d1_17 rfl (by decide) rfl rfl ?_
  refine own_goto (pc' := 2) C d1_20 (by decide) (by decide) ?_
  refine own_iloadN (pc' := 3) C d1_2 rfl rfl ?_
  refine own_iconst (pc' := 4) (v := (5 : Int32)) C d1_3 own_ki_5 rfl ?_
  refine own_icmp_ge (pt := 23) (pf := 7) C d1_4 (by decide) (by decide) rfl (fun q => absurd (by decide) q) (fun _ => ?_)
  refine own_aloadN (pc' := 8) C d1_7 rfl rfl rfl ?_
  refine own_iloadN (pc' := 9) C d1_8 rfl rfl ?_
  refine own_aloadN (pc' := 10) C d1_9 rfl rfl rfl ?_
  refine own_iloadN (pc' := 11) C d1_10 rfl rfl ?_
  refine own_laload (pc' := 12) (v := a4_) (i := 4) C d1_11 A_a (by decide) rfl rfl rfl ?_
  refine own_aloadN (pc' := 13) C d1_12 rfl rfl rfl ?_
  refine own_iloadN (pc' := 14) C d1_13 rfl rfl ?_
  refine own_laload (pc' := 15) (v := b4_) (i := 4) C d1_14 A_b (by decide) rfl rfl rfl ?_
  refine own_ladd (pc' := 16) C d1_15 rfl rfl ?_
  obtain ⟨y16_5, hy16_5⟩ : ∃ z : Int64, z = (a4_ + b4_) := ⟨_, rfl⟩
  refine own_lastore (pc' := 17) (i := 4) (ys := [y16, y16_2, y16_3, y16_4, y16_5]) C d1_16 A_a (by decide) rfl (Nat.le_of_ble_eq_true rfl) (by rw [hy16_5]; rfl) g_a rfl ?_
  intro h5 W5 A5_
  replace A_b := A_b.other W5 (Ne.symm ne_a_b)
  replace A_a := A5_
  replace Z_ : n0 ≤ _ := Nat.le_trans Z_ (Nat.le_of_eq W5.size.symm)
  replace K_ := K_.wr W5 (Or.inl (List.mem_of_getElem? (i := 0) rfl))
  refine own_iinc (pc' := 20) (v := (5 : Int32)) (Ls' := #[.val (.ref a), .val (.ref a), .val (.ref b), .val (.int (5 : Int32))]) C d1_17 rfl (by decide) rfl rfl ?_
  refine own_goto (pc' := 2) C d1_20 (by decide) (by decide) ?_
  refine own_iloadN (pc' := 3) C d1_2 rfl rfl ?_
  refine own_iconst (pc' := 4) (v := (5 : Int32)) C d1_3 own_ki_5 rfl ?_
  refine own_icmp_ge (pt := 23) (pf := 7) C d1_4 (by decide) (by decide) rfl (fun _ => ?_) (fun q => absurd q (by decide))
  refine own_vret C d1_23 (by decide) (by decide) ?_
  subst hy16 hy16_2 hy16_3 hy16_4 hy16_5
  exact ⟨rfl, K_, A_a⟩

set_option maxRecDepth 65536 in
set_option maxHeartbeats 40000000 in
theorem own_add2 (l : Launch) (Z : State) (a0 : Array Value) (hw : ∀ d ∈ tables_1, d.before a0 Z = true) (b : Addr) (a : Addr) (b0_ b1_ b2_ b3_ b4_ a0_ a1_ a2_ a3_ a4_ : Int64) (h0 : Heap) (n0 : Nat) (Z_ : n0 ≤ h0.size) (A_b : AJ Z h0 b [b0_, b1_, b2_, b3_, b4_]) (A_a : AJ Z h0 a [a0_, a1_, a2_, a3_, a4_]) (g_b : n0 ≤ b) (ne_b_a : b ≠ a) :
    Met l (⟨"com/example/libsworn/libsworn/P256Field", "add", "([J[J[J)V"⟩ : MethodName) prog_6_method_9_code 4 none [] ({ frames := 0, cells := 0, slots := 0, locals := 0 } : Room) Z n0 #[(.ref b), (.ref a), (.ref b)] h0 (fun v h => v = none ∧ Keep h0 h [b] ∧ AJ Z h b [(a0_ + b0_), (a1_ + b1_), (a2_ + b2_), (a3_ + b3_), (a4_ + b4_)]) := by
  refine own_met pn1 (fun m => ef1 m b a b) ?_
  intro p e s m below meth c C
  have K_ : Keep h0 h0 [b] := Keep.refl _ _
  refine own_iconst (pc' := 1) (v := (0 : Int32)) C d1_0 own_ki_0 rfl ?_
  refine own_istoreN (pc' := 2) (y := (0 : Int32)) (Ls' := #[.val (.ref b), .val (.ref a), .val (.ref b), .val (.int (0 : Int32))]) C d1_1 rfl rfl rfl ?_
  refine own_iloadN (pc' := 3) C d1_2 rfl rfl ?_
  refine own_iconst (pc' := 4) (v := (5 : Int32)) C d1_3 own_ki_5 rfl ?_
  refine own_icmp_ge (pt := 23) (pf := 7) C d1_4 (by decide) (by decide) rfl (fun q => absurd (by decide) q) (fun _ => ?_)
  refine own_aloadN (pc' := 8) C d1_7 rfl rfl rfl ?_
  refine own_iloadN (pc' := 9) C d1_8 rfl rfl ?_
  refine own_aloadN (pc' := 10) C d1_9 rfl rfl rfl ?_
  refine own_iloadN (pc' := 11) C d1_10 rfl rfl ?_
  refine own_laload (pc' := 12) (v := a0_) (i := 0) C d1_11 A_a (by decide) rfl rfl rfl ?_
  refine own_aloadN (pc' := 13) C d1_12 rfl rfl rfl ?_
  refine own_iloadN (pc' := 14) C d1_13 rfl rfl ?_
  refine own_laload (pc' := 15) (v := b0_) (i := 0) C d1_14 A_b (by decide) rfl rfl rfl ?_
  refine own_ladd (pc' := 16) C d1_15 rfl rfl ?_
  obtain ⟨y16, hy16⟩ : ∃ z : Int64, z = (a0_ + b0_) := ⟨_, rfl⟩
  refine own_lastore (pc' := 17) (i := 0) (ys := [y16, b1_, b2_, b3_, b4_]) C d1_16 A_b (by decide) rfl (Nat.le_of_ble_eq_true rfl) (by rw [hy16]; rfl) g_b rfl ?_
  intro h1 W1 A1_
  replace A_a := A_a.other W1 (Ne.symm ne_b_a)
  replace A_b := A1_
  replace Z_ : n0 ≤ _ := Nat.le_trans Z_ (Nat.le_of_eq W1.size.symm)
  replace K_ := K_.wr W1 (Or.inl (List.mem_of_getElem? (i := 0) rfl))
  refine own_iinc (pc' := 20) (v := (1 : Int32)) (Ls' := #[.val (.ref b), .val (.ref a), .val (.ref b), .val (.int (1 : Int32))]) C d1_17 rfl (by decide) rfl rfl ?_
  refine own_goto (pc' := 2) C d1_20 (by decide) (by decide) ?_
  refine own_iloadN (pc' := 3) C d1_2 rfl rfl ?_
  refine own_iconst (pc' := 4) (v := (5 : Int32)) C d1_3 own_ki_5 rfl ?_
  refine own_icmp_ge (pt := 23) (pf := 7) C d1_4 (by decide) (by decide) rfl (fun q => absurd (by decide) q) (fun _ => ?_)
  refine own_aloadN (pc' := 8) C d1_7 rfl rfl rfl ?_
  refine own_iloadN (pc' := 9) C d1_8 rfl rfl ?_
  refine own_aloadN (pc' := 10) C d1_9 rfl rfl rfl ?_
  refine own_iloadN (pc' := 11) C d1_10 rfl rfl ?_
  refine own_laload (pc' := 12) (v := a1_) (i := 1) C d1_11 A_a (by decide) rfl rfl rfl ?_
  refine own_aloadN (pc' := 13) C d1_12 rfl rfl rfl ?_
  refine own_iloadN (pc' := 14) C d1_13 rfl rfl ?_
  refine own_laload (pc' := 15) (v := b1_) (i := 1) C d1_14 A_b (by decide) rfl rfl rfl ?_
  refine own_ladd (pc' := 16) C d1_15 rfl rfl ?_
  obtain ⟨y16_2, hy16_2⟩ : ∃ z : Int64, z = (a1_ + b1_) := ⟨_, rfl⟩
  refine own_lastore (pc' := 17) (i := 1) (ys := [y16, y16_2, b2_, b3_, b4_]) C d1_16 A_b (by decide) rfl (Nat.le_of_ble_eq_true rfl) (by rw [hy16_2]; rfl) g_b rfl ?_
  intro h2 W2 A2_
  replace A_a := A_a.other W2 (Ne.symm ne_b_a)
  replace A_b := A2_
  replace Z_ : n0 ≤ _ := Nat.le_trans Z_ (Nat.le_of_eq W2.size.symm)
  replace K_ := K_.wr W2 (Or.inl (List.mem_of_getElem? (i := 0) rfl))
  refine own_iinc (pc' := 20) (v := (2 : Int32)) (Ls' := #[.val (.ref b), .val (.ref a), .val (.ref b), .val (.int (2 : Int32))]) C d1_17 rfl (by decide) rfl rfl ?_
  refine own_goto (pc' := 2) C d1_20 (by decide) (by decide) ?_
  refine own_iloadN (pc' := 3) C d1_2 rfl rfl ?_
  refine own_iconst (pc' := 4) (v := (5 : Int32)) C d1_3 own_ki_5 rfl ?_
  refine own_icmp_ge (pt := 23) (pf := 7) C d1_4 (by decide) (by decide) rfl (fun q => absurd (by decide) q) (fun _ => ?_)
  refine own_aloadN (pc' := 8) C d1_7 rfl rfl rfl ?_
  refine own_iloadN (pc' := 9) C d1_8 rfl rfl ?_
  refine own_aloadN (pc' := 10) C d1_9 rfl rfl rfl ?_
  refine own_iloadN (pc' := 11) C d1_10 rfl rfl ?_
  refine own_laload (pc' := 12) (v := a2_) (i := 2) C d1_11 A_a (by decide) rfl rfl rfl ?_
  refine own_aloadN (pc' := 13) C d1_12 rfl rfl rfl ?_
  refine own_iloadN (pc' := 14) C d1_13 rfl rfl ?_
  refine own_laload (pc' := 15) (v := b2_) (i := 2) C d1_14 A_b (by decide) rfl rfl rfl ?_
  refine own_ladd (pc' := 16) C d1_15 rfl rfl ?_
  obtain ⟨y16_3, hy16_3⟩ : ∃ z : Int64, z = (a2_ + b2_) := ⟨_, rfl⟩
  refine own_lastore (pc' := 17) (i := 2) (ys := [y16, y16_2, y16_3, b3_, b4_]) C d1_16 A_b (by decide) rfl (Nat.le_of_ble_eq_true rfl) (by rw [hy16_3]; rfl) g_b rfl ?_
  intro h3 W3 A3_
  replace A_a := A_a.other W3 (Ne.symm ne_b_a)
  replace A_b := A3_
  replace Z_ : n0 ≤ _ := Nat.le_trans Z_ (Nat.le_of_eq W3.size.symm)
  replace K_ := K_.wr W3 (Or.inl (List.mem_of_getElem? (i := 0) rfl))
  refine own_iinc (pc' := 20) (v := (3 : Int32)) (Ls' := #[.val (.ref b), .val (.ref a), .val (.ref b), .val (.int (3 : Int32))]) C d1_17 rfl (by decide) rfl rfl ?_
  refine own_goto (pc' := 2) C d1_20 (by decide) (by decide) ?_
  refine own_iloadN (pc' := 3) C d1_2 rfl rfl ?_
  refine own_iconst (pc' := 4) (v := (5 : Int32)) C d1_3 own_ki_5 rfl ?_
  refine own_icmp_ge (pt := 23) (pf := 7) C d1_4 (by decide) (by decide) rfl (fun q => absurd (by decide) q) (fun _ => ?_)
  refine own_aloadN (pc' := 8) C d1_7 rfl rfl rfl ?_
  refine own_iloadN (pc' := 9) C d1_8 rfl rfl ?_
  refine own_aloadN (pc' := 10) C d1_9 rfl rfl rfl ?_
  refine own_iloadN (pc' := 11) C d1_10 rfl rfl ?_
  refine own_laload (pc' := 12) (v := a3_) (i := 3) C d1_11 A_a (by decide) rfl rfl rfl ?_
  refine own_aloadN (pc' := 13) C d1_12 rfl rfl rfl ?_
  refine own_iloadN (pc' := 14) C d1_13 rfl rfl ?_
  refine own_laload (pc' := 15) (v := b3_) (i := 3) C d1_14 A_b (by decide) rfl rfl rfl ?_
  refine own_ladd (pc' := 16) C d1_15 rfl rfl ?_
  obtain ⟨y16_4, hy16_4⟩ : ∃ z : Int64, z = (a3_ + b3_) := ⟨_, rfl⟩
  refine own_lastore (pc' := 17) (i := 3) (ys := [y16, y16_2, y16_3, y16_4, b4_]) C d1_16 A_b (by decide) rfl (Nat.le_of_ble_eq_true rfl) (by rw [hy16_4]; rfl) g_b rfl ?_
  intro h4 W4 A4_
  replace A_a := A_a.other W4 (Ne.symm ne_b_a)
  replace A_b := A4_
  replace Z_ : n0 ≤ _ := Nat.le_trans Z_ (Nat.le_of_eq W4.size.symm)
  replace K_ := K_.wr W4 (Or.inl (List.mem_of_getElem? (i := 0) rfl))
  refine own_iinc (pc' := 20) (v := (4 : Int32)) (Ls' := #[.val (.ref b), .val (.ref a), .val (.ref b), .val (.int (4 : Int32))]) C d1_17 rfl (by decide) rfl rfl ?_
  refine own_goto (pc' := 2) C d1_20 (by decide) (by decide) ?_
  refine own_iloadN (pc' := 3) C d1_2 rfl rfl ?_
  refine own_iconst (pc' := 4) (v := (5 : Int32)) C d1_3 own_ki_5 rfl ?_
  refine own_icmp_ge (pt := 23) (pf := 7) C d1_4 (by decide) (by decide) rfl (fun q => absurd (by decide) q) (fun _ => ?_)
  refine own_aloadN (pc' := 8) C d1_7 rfl rfl rfl ?_
  refine own_iloadN (pc' := 9) C d1_8 rfl rfl ?_
  refine own_aloadN (pc' := 10) C d1_9 rfl rfl rfl ?_
  refine own_iloadN (pc' := 11) C d1_10 rfl rfl ?_
  refine own_laload (pc' := 12) (v := a4_) (i := 4) C d1_11 A_a (by decide) rfl rfl rfl ?_
  refine own_aloadN (pc' := 13) C d1_12 rfl rfl rfl ?_
  refine own_iloadN (pc' := 14) C d1_13 rfl rfl ?_
  refine own_laload (pc' := 15) (v := b4_) (i := 4) C d1_14 A_b (by decide) rfl rfl rfl ?_
  refine own_ladd (pc' := 16) C d1_15 rfl rfl ?_
  obtain ⟨y16_5, hy16_5⟩ : ∃ z : Int64, z = (a4_ + b4_) := ⟨_, rfl⟩
  refine own_lastore (pc' := 17) (i := 4) (ys := [y16, y16_2, y16_3, y16_4, y16_5]) C d1_16 A_b (by decide) rfl (Nat.le_of_ble_eq_true rfl) (by rw [hy16_5]; rfl) g_b rfl ?_
  intro h5 W5 A5_
  replace A_a := A_a.other W5 (Ne.symm ne_b_a)
  replace A_b := A5_
  replace Z_ : n0 ≤ _ := Nat.le_trans Z_ (Nat.le_of_eq W5.size.symm)
  replace K_ := K_.wr W5 (Or.inl (List.mem_of_getElem? (i := 0) rfl))
  refine own_iinc (pc' := 20) (v := (5 : Int32)) (Ls' := #[.val (.ref b), .val (.ref a), .val (.ref b), .val (.int (5 : Int32))]) C d1_17 rfl (by decide) rfl rfl ?_
  refine own_goto (pc' := 2) C d1_20 (by decide) (by decide) ?_
  refine own_iloadN (pc' := 3) C d1_2 rfl rfl ?_
  refine own_iconst (pc' := 4) (v := (5 : Int32)) C d1_3 own_ki_5 rfl ?_
  refine own_icmp_ge (pt := 23) (pf := 7) C d1_4 (by decide) (by decide) rfl (fun _ => ?_) (fun q => absurd q (by decide))
  refine own_vret C d1_23 (by decide) (by decide) ?_
  subst hy16 hy16_2 hy16_3 hy16_4 hy16_5
  exact ⟨rfl, K_, A_b⟩

set_option maxRecDepth 65536 in
set_option maxHeartbeats 40000000 in
theorem own_add3 (l : Launch) (Z : State) (a0 : Array Value) (hw : ∀ d ∈ tables_1, d.before a0 Z = true) (a : Addr) (a0_ a1_ a2_ a3_ a4_ : Int64) (h0 : Heap) (n0 : Nat) (Z_ : n0 ≤ h0.size) (A_a : AJ Z h0 a [a0_, a1_, a2_, a3_, a4_]) (g_a : n0 ≤ a) :
    Met l (⟨"com/example/libsworn/libsworn/P256Field", "add", "([J[J[J)V"⟩ : MethodName) prog_6_method_9_code 4 none [] ({ frames := 0, cells := 0, slots := 0, locals := 0 } : Room) Z n0 #[(.ref a), (.ref a), (.ref a)] h0 (fun v h => v = none ∧ Keep h0 h [a] ∧ AJ Z h a [(a0_ + a0_), (a1_ + a1_), (a2_ + a2_), (a3_ + a3_), (a4_ + a4_)]) := by
  refine own_met pn1 (fun m => ef1 m a a a) ?_
  intro p e s m below meth c C
  have K_ : Keep h0 h0 [a] := Keep.refl _ _
  refine own_iconst (pc' := 1) (v := (0 : Int32)) C d1_0 own_ki_0 rfl ?_
  refine own_istoreN (pc' := 2) (y := (0 : Int32)) (Ls' := #[.val (.ref a), .val (.ref a), .val (.ref a), .val (.int (0 : Int32))]) C d1_1 rfl rfl rfl ?_
  refine own_iloadN (pc' := 3) C d1_2 rfl rfl ?_
  refine own_iconst (pc' := 4) (v := (5 : Int32)) C d1_3 own_ki_5 rfl ?_
  refine own_icmp_ge (pt := 23) (pf := 7) C d1_4 (by decide) (by decide) rfl (fun q => absurd (by decide) q) (fun _ => ?_)
  refine own_aloadN (pc' := 8) C d1_7 rfl rfl rfl ?_
  refine own_iloadN (pc' := 9) C d1_8 rfl rfl ?_
  refine own_aloadN (pc' := 10) C d1_9 rfl rfl rfl ?_
  refine own_iloadN (pc' := 11) C d1_10 rfl rfl ?_
  refine own_laload (pc' := 12) (v := a0_) (i := 0) C d1_11 A_a (by decide) rfl rfl rfl ?_
  refine own_aloadN (pc' := 13) C d1_12 rfl rfl rfl ?_
  refine own_iloadN (pc' := 14) C d1_13 rfl rfl ?_
  refine own_laload (pc' := 15) (v := a0_) (i := 0) C d1_14 A_a (by decide) rfl rfl rfl ?_
  refine own_ladd (pc' := 16) C d1_15 rfl rfl ?_
  obtain ⟨y16, hy16⟩ : ∃ z : Int64, z = (a0_ + a0_) := ⟨_, rfl⟩
  refine own_lastore (pc' := 17) (i := 0) (ys := [y16, a1_, a2_, a3_, a4_]) C d1_16 A_a (by decide) rfl (Nat.le_of_ble_eq_true rfl) (by rw [hy16]; rfl) g_a rfl ?_
  intro h1 W1 A1_
  replace A_a := A1_
  replace Z_ : n0 ≤ _ := Nat.le_trans Z_ (Nat.le_of_eq W1.size.symm)
  replace K_ := K_.wr W1 (Or.inl (List.mem_of_getElem? (i := 0) rfl))
  refine own_iinc (pc' := 20) (v := (1 : Int32)) (Ls' := #[.val (.ref a), .val (.ref a), .val (.ref a), .val (.int (1 : Int32))]) C d1_17 rfl (by decide) rfl rfl ?_
  refine own_goto (pc' := 2) C d1_20 (by decide) (by decide) ?_
  refine own_iloadN (pc' := 3) C d1_2 rfl rfl ?_
  refine own_iconst (pc' := 4) (v := (5 : Int32)) C d1_3 own_ki_5 rfl ?_
  refine own_icmp_ge (pt := 23) (pf := 7) C d1_4 (by decide) (by decide) rfl (fun q => absurd (by decide) q) (fun _ => ?_)
  refine own_aloadN (pc' := 8) C d1_7 rfl rfl rfl ?_
  refine own_iloadN (pc' := 9) C d1_8 rfl rfl ?_
  refine own_aloadN (pc' := 10) C d1_9 rfl rfl rfl ?_
  refine own_iloadN (pc' := 11) C d1_10 rfl rfl ?_
  refine own_laload (pc' := 12) (v := a1_) (i := 1) C d1_11 A_a (by decide) rfl rfl rfl ?_
  refine own_aloadN (pc' := 13) C d1_12 rfl rfl rfl ?_
  refine own_iloadN (pc' := 14) C d1_13 rfl rfl ?_
  refine own_laload (pc' := 15) (v := a1_) (i := 1) C d1_14 A_a (by decide) rfl rfl rfl ?_
  refine own_ladd (pc' := 16) C d1_15 rfl rfl ?_
  obtain ⟨y16_2, hy16_2⟩ : ∃ z : Int64, z = (a1_ + a1_) := ⟨_, rfl⟩
  refine own_lastore (pc' := 17) (i := 1) (ys := [y16, y16_2, a2_, a3_, a4_]) C d1_16 A_a (by decide) rfl (Nat.le_of_ble_eq_true rfl) (by rw [hy16_2]; rfl) g_a rfl ?_
  intro h2 W2 A2_
  replace A_a := A2_
  replace Z_ : n0 ≤ _ := Nat.le_trans Z_ (Nat.le_of_eq W2.size.symm)
  replace K_ := K_.wr W2 (Or.inl (List.mem_of_getElem? (i := 0) rfl))
  refine own_iinc (pc' := 20) (v := (2 : Int32)) (Ls' := #[.val (.ref a), .val (.ref a), .val (.ref a), .val (.int (2 : Int32))]) C d1_17 rfl (by decide) rfl rfl ?_
  refine own_goto (pc' := 2) C d1_20 (by decide) (by decide) ?_
  refine own_iloadN (pc' := 3) C d1_2 rfl rfl ?_
  refine own_iconst (pc' := 4) (v := (5 : Int32)) C d1_3 own_ki_5 rfl ?_
  refine own_icmp_ge (pt := 23) (pf := 7) C d1_4 (by decide) (by decide) rfl (fun q => absurd (by decide) q) (fun _ => ?_)
  refine own_aloadN (pc' := 8) C d1_7 rfl rfl rfl ?_
  refine own_iloadN (pc' := 9) C d1_8 rfl rfl ?_
  refine own_aloadN (pc' := 10) C d1_9 rfl rfl rfl ?_
  refine own_iloadN (pc' := 11) C d1_10 rfl rfl ?_
  refine own_laload (pc' := 12) (v := a2_) (i := 2) C d1_11 A_a (by decide) rfl rfl rfl ?_
  refine own_aloadN (pc' := 13) C d1_12 rfl rfl rfl ?_
  refine own_iloadN (pc' := 14) C d1_13 rfl rfl ?_
  refine own_laload (pc' := 15) (v := a2_) (i := 2) C d1_14 A_a (by decide) rfl rfl rfl ?_
  refine own_ladd (pc' := 16) C d1_15 rfl rfl ?_
  obtain ⟨y16_3, hy16_3⟩ : ∃ z : Int64, z = (a2_ + a2_) := ⟨_, rfl⟩
  refine own_lastore (pc' := 17) (i := 2) (ys := [y16, y16_2, y16_3, a3_, a4_]) C d1_16 A_a (by decide) rfl (Nat.le_of_ble_eq_true rfl) (by rw [hy16_3]; rfl) g_a rfl ?_
  intro h3 W3 A3_
  replace A_a := A3_
  replace Z_ : n0 ≤ _ := Nat.le_trans Z_ (Nat.le_of_eq W3.size.symm)
  replace K_ := K_.wr W3 (Or.inl (List.mem_of_getElem? (i := 0) rfl))
  refine own_iinc (pc' := 20) (v := (3 : Int32)) (Ls' := #[.val (.ref a), .val (.ref a), .val (.ref a), .val (.int (3 : Int32))]) C d1_17 rfl (by decide) rfl rfl ?_
  refine own_goto (pc' := 2) C d1_20 (by decide) (by decide) ?_
  refine own_iloadN (pc' := 3) C d1_2 rfl rfl ?_
  refine own_iconst (pc' := 4) (v := (5 : Int32)) C d1_3 own_ki_5 rfl ?_
  refine own_icmp_ge (pt := 23) (pf := 7) C d1_4 (by decide) (by decide) rfl (fun q => absurd (by decide) q) (fun _ => ?_)
  refine own_aloadN (pc' := 8) C d1_7 rfl rfl rfl ?_
  refine own_iloadN (pc' := 9) C d1_8 rfl rfl ?_
  refine own_aloadN (pc' := 10) C d1_9 rfl rfl rfl ?_
  refine own_iloadN (pc' := 11) C d1_10 rfl rfl ?_
  refine own_laload (pc' := 12) (v := a3_) (i := 3) C d1_11 A_a (by decide) rfl rfl rfl ?_
  refine own_aloadN (pc' := 13) C d1_12 rfl rfl rfl ?_
  refine own_iloadN (pc' := 14) C d1_13 rfl rfl ?_
  refine own_laload (pc' := 15) (v := a3_) (i := 3) C d1_14 A_a (by decide) rfl rfl rfl ?_
  refine own_ladd (pc' := 16) C d1_15 rfl rfl ?_
  obtain ⟨y16_4, hy16_4⟩ : ∃ z : Int64, z = (a3_ + a3_) := ⟨_, rfl⟩
  refine own_lastore (pc' := 17) (i := 3) (ys := [y16, y16_2, y16_3, y16_4, a4_]) C d1_16 A_a (by decide) rfl (Nat.le_of_ble_eq_true rfl) (by rw [hy16_4]; rfl) g_a rfl ?_
  intro h4 W4 A4_
  replace A_a := A4_
  replace Z_ : n0 ≤ _ := Nat.le_trans Z_ (Nat.le_of_eq W4.size.symm)
  replace K_ := K_.wr W4 (Or.inl (List.mem_of_getElem? (i := 0) rfl))
  refine own_iinc (pc' := 20) (v := (4 : Int32)) (Ls' := #[.val (.ref a), .val (.ref a), .val (.ref a), .val (.int (4 : Int32))]) C d1_17 rfl (by decide) rfl rfl ?_
  refine own_goto (pc' := 2) C d1_20 (by decide) (by decide) ?_
  refine own_iloadN (pc' := 3) C d1_2 rfl rfl ?_
  refine own_iconst (pc' := 4) (v := (5 : Int32)) C d1_3 own_ki_5 rfl ?_
  refine own_icmp_ge (pt := 23) (pf := 7) C d1_4 (by decide) (by decide) rfl (fun q => absurd (by decide) q) (fun _ => ?_)
  refine own_aloadN (pc' := 8) C d1_7 rfl rfl rfl ?_
  refine own_iloadN (pc' := 9) C d1_8 rfl rfl ?_
  refine own_aloadN (pc' := 10) C d1_9 rfl rfl rfl ?_
  refine own_iloadN (pc' := 11) C d1_10 rfl rfl ?_
  refine own_laload (pc' := 12) (v := a4_) (i := 4) C d1_11 A_a (by decide) rfl rfl rfl ?_
  refine own_aloadN (pc' := 13) C d1_12 rfl rfl rfl ?_
  refine own_iloadN (pc' := 14) C d1_13 rfl rfl ?_
  refine own_laload (pc' := 15) (v := a4_) (i := 4) C d1_14 A_a (by decide) rfl rfl rfl ?_
  refine own_ladd (pc' := 16) C d1_15 rfl rfl ?_
  obtain ⟨y16_5, hy16_5⟩ : ∃ z : Int64, z = (a4_ + a4_) := ⟨_, rfl⟩
  refine own_lastore (pc' := 17) (i := 4) (ys := [y16, y16_2, y16_3, y16_4, y16_5]) C d1_16 A_a (by decide) rfl (Nat.le_of_ble_eq_true rfl) (by rw [hy16_5]; rfl) g_a rfl ?_
  intro h5 W5 A5_
  replace A_a := A5_
  replace Z_ : n0 ≤ _ := Nat.le_trans Z_ (Nat.le_of_eq W5.size.symm)
  replace K_ := K_.wr W5 (Or.inl (List.mem_of_getElem? (i := 0) rfl))
  refine own_iinc (pc' := 20) (v := (5 : Int32)) (Ls' := #[.val (.ref a), .val (.ref a), .val (.ref a), .val (.int (5 : Int32))]) C d1_17 rfl (by decide) rfl rfl ?_
  refine own_goto (pc' := 2) C d1_20 (by decide) (by decide) ?_
  refine own_iloadN (pc' := 3) C d1_2 rfl rfl ?_
  refine own_iconst (pc' := 4) (v := (5 : Int32)) C d1_3 own_ki_5 rfl ?_
  refine own_icmp_ge (pt := 23) (pf := 7) C d1_4 (by decide) (by decide) rfl (fun _ => ?_) (fun q => absurd q (by decide))
  refine own_vret C d1_23 (by decide) (by decide) ?_
  subst hy16 hy16_2 hy16_3 hy16_4 hy16_5
  exact ⟨rfl, K_, A_a⟩

theorem own_four {x z : Int32} (h : z = x &&& 3) : z = 0 ∨ z = 1 ∨ z = 2 ∨ z = 3 := by
  have h1 := c_and x 3 (by decide)
  rw [← h] at h1
  have k0 : (3 : Int32).toInt = 3 := rfl
  have k : z.toInt = 0 ∨ z.toInt = 1 ∨ z.toInt = 2 ∨ z.toInt = 3 := by omega
  rcases k with k | k | k | k
  · left; exact Int32.toInt_inj.mp k
  · right; left; exact Int32.toInt_inj.mp k
  · right; right; left; exact Int32.toInt_inj.mp k
  · right; right; right; exact Int32.toInt_inj.mp k

theorem pn0 : plainName "com/example/libsworn/libsworn/P256FieldAddPinLaw" = true := by first | (simp [plainName, overriddenIn]; done) | decide +kernel
theorem ef0 (m : MethodId) (x0 : Int64) (x1 : Int64) (x2 : Int64) (x3 : Int64) (x4 : Int64) (x5 : Int32) : entryFrame m #[(.long x0), (.long x1), (.long x2), (.long x3), (.long x4), (.int x5)] maxLocals = mkF m 0 #[.val (.long x0), .second, .val (.long x1), .second, .val (.long x2), .second, .val (.long x3), .second, .val (.long x4), .second, .val (.int x5), .unset, .unset, .unset, .unset, .unset, .unset, .unset, .unset, .unset, .unset, .unset, .unset, .unset, .unset, .unset, .unset, .unset, .unset, .unset, .unset, .unset, .unset, .unset, .unset, .unset, .unset, .unset, .unset, .unset, .unset, .unset, .unset, .unset, .unset, .unset, .unset] [] := by first | (simp [entryFrame, mkF, argsToLocals, Value.category, maxLocals]; done) | rfl
theorem pd1 : parseMethodDescriptor "([J[J[J)V" = some ⟨[(.array .long), (.array .long), (.array .long)], none⟩ := by decide +kernel
theorem own_ki_3 : Int32.ofInt (3) = (3 : Int32) := by decide
theorem own_ki_2 : Int32.ofInt (2) = (2 : Int32) := by decide
theorem own_sishr_2 (x : Int32) : x >>> ((2 : Int32) &&& 31) = x >>> (2 : Int32) := by rw [show ((2 : Int32) &&& 31) = (2 : Int32) from by decide]
theorem own_ki_1 : Int32.ofInt (1) = (1 : Int32) := by decide
theorem own_ki_4 : Int32.ofInt (4) = (4 : Int32) := by decide
set_option maxRecDepth 65536 in
set_option maxHeartbeats 40000000 in
theorem own_law (l : Launch) (Z : State) (a0 : Array Value) (hw : ∀ d ∈ tables_1, d.before a0 Z = true) (ws : List Jvm.Cond) (p0 : Int64) (p1 : Int64) (p2 : Int64) (p3 : Int64) (p4 : Int64) (p5 : Int32)  (h0 : Heap) (n0 : Nat) (Z_ : n0 ≤ h0.size)  :
    Met l x code maxLocals ret ws room_1 Z n0 #[(.long p0), (.long p1), (.long p2), (.long p3), (.long p4), (.int p5)] h0 (fun v h => v = some (.int 1)) := by
  refine own_met pn0 (fun m => ef0 m p0 p1 p2 p3 p4 p5) ?_
  intro p e s m below meth c C0
  have C : Cx p s m meth c Z code 47 (some .boolean) "com/example/libsworn/libsworn/P256FieldAddPinLaw" "law" := C0
  refine own_iload (pc' := 2) C at_0 rfl rfl ?_
  refine own_iconst (pc' := 3) (v := (3 : Int32)) C at_2 own_ki_3 rfl ?_
  refine own_iand (pc' := 4) C at_3 rfl rfl ?_
  obtain ⟨v11_4, hv11_4⟩ : ∃ z : Int32, z = (p5 &&& (3 : Int32)) := ⟨_, rfl⟩
  refine own_istore (pc' := 6) (y := v11_4) (Ls' := #[.val (.long p0), .second, .val (.long p1), .second, .val (.long p2), .second, .val (.long p3), .second, .val (.long p4), .second, .val (.int p5), .val (.int v11_4), .unset, .unset, .unset, .unset, .unset, .unset, .unset, .unset, .unset, .unset, .unset, .unset, .unset, .unset, .unset, .unset, .unset, .unset, .unset, .unset, .unset, .unset, .unset, .unset, .unset, .unset, .unset, .unset, .unset, .unset, .unset, .unset, .unset, .unset, .unset]) C at_4 hv11_4.symm rfl rfl ?_
  rcases own_four hv11_4 with q | q | q | q
  · subst q
    refine own_lloadN (pc' := 7) C at_6 rfl rfl ?_
    refine own_lstore (pc' := 9) (y := p0) (Ls' := #[.val (.long p0), .second, .val (.long p1), .second, .val (.long p2), .second, .val (.long p3), .second, .val (.long p4), .second, .val (.int p5), .val (.int (0 : Int32)), .val (.long p0), .second, .unset, .unset, .unset, .unset, .unset, .unset, .unset, .unset, .unset, .unset, .unset, .unset, .unset, .unset, .unset, .unset, .unset, .unset, .unset, .unset, .unset, .unset, .unset, .unset, .unset, .unset, .unset, .unset, .unset, .unset, .unset, .unset, .unset]) C at_7 rfl rfl rfl ?_
    refine own_lloadN (pc' := 10) C at_9 rfl rfl ?_
    refine own_lstore (pc' := 12) (y := p1) (Ls' := #[.val (.long p0), .second, .val (.long p1), .second, .val (.long p2), .second, .val (.long p3), .second, .val (.long p4), .second, .val (.int p5), .val (.int (0 : Int32)), .val (.long p0), .second, .val (.long p1), .second, .unset, .unset, .unset, .unset, .unset, .unset, .unset, .unset, .unset, .unset, .unset, .unset, .unset, .unset, .unset, .unset, .unset, .unset, .unset, .unset, .unset, .unset, .unset, .unset, .unset, .unset, .unset, .unset, .unset, .unset, .unset]) C at_10 rfl rfl rfl ?_
    refine own_lload (pc' := 14) C at_12 rfl rfl ?_
    refine own_lstore (pc' := 16) (y := p2) (Ls' := #[.val (.long p0), .second, .val (.long p1), .second, .val (.long p2), .second, .val (.long p3), .second, .val (.long p4), .second, .val (.int p5), .val (.int (0 : Int32)), .val (.long p0), .second, .val (.long p1), .second, .val (.long p2), .second, .unset, .unset, .unset, .unset, .unset, .unset, .unset, .unset, .unset, .unset, .unset, .unset, .unset, .unset, .unset, .unset, .unset, .unset, .unset, .unset, .unset, .unset, .unset, .unset, .unset, .unset, .unset, .unset, .unset]) C at_14 rfl rfl rfl ?_
    refine own_lload (pc' := 18) C at_16 rfl rfl ?_
    refine own_lstore (pc' := 20) (y := p3) (Ls' := #[.val (.long p0), .second, .val (.long p1), .second, .val (.long p2), .second, .val (.long p3), .second, .val (.long p4), .second, .val (.int p5), .val (.int (0 : Int32)), .val (.long p0), .second, .val (.long p1), .second, .val (.long p2), .second, .val (.long p3), .second, .unset, .unset, .unset, .unset, .unset, .unset, .unset, .unset, .unset, .unset, .unset, .unset, .unset, .unset, .unset, .unset, .unset, .unset, .unset, .unset, .unset, .unset, .unset, .unset, .unset, .unset, .unset]) C at_18 rfl rfl rfl ?_
    refine own_lload (pc' := 22) C at_20 rfl rfl ?_
    refine own_lstore (pc' := 24) (y := p4) (Ls' := #[.val (.long p0), .second, .val (.long p1), .second, .val (.long p2), .second, .val (.long p3), .second, .val (.long p4), .second, .val (.int p5), .val (.int (0 : Int32)), .val (.long p0), .second, .val (.long p1), .second, .val (.long p2), .second, .val (.long p3), .second, .val (.long p4), .second, .unset, .unset, .unset, .unset, .unset, .unset, .unset, .unset, .unset, .unset, .unset, .unset, .unset, .unset, .unset, .unset, .unset, .unset, .unset, .unset, .unset, .unset, .unset, .unset, .unset]) C at_22 rfl rfl rfl ?_
    refine own_lload (pc' := 26) C at_24 rfl rfl ?_
    refine own_lloadN (pc' := 27) C at_26 rfl rfl ?_
    refine own_lxor (pc' := 28) C at_27 rfl rfl ?_
    obtain ⟨v22_28, hv22_28⟩ : ∃ z : Int64, z = (p3 ^^^ p1) := ⟨_, rfl⟩
    refine own_lstore (pc' := 30) (y := v22_28) (Ls' := #[.val (.long p0), .second, .val (.long p1), .second, .val (.long p2), .second, .val (.long p3), .second, .val (.long p4), .second, .val (.int p5), .val (.int (0 : Int32)), .val (.long p0), .second, .val (.long p1), .second, .val (.long p2), .second, .val (.long p3), .second, .val (.long p4), .second, .val (.long v22_28), .second, .unset, .unset, .unset, .unset, .unset, .unset, .unset, .unset, .unset, .unset, .unset, .unset, .unset, .unset, .unset, .unset, .unset, .unset, .unset, .unset, .unset, .unset, .unset]) C at_28 hv22_28.symm rfl rfl ?_
    refine own_lloadN (pc' := 31) C at_30 rfl rfl ?_
    refine own_iload (pc' := 33) C at_31 rfl rfl ?_
    refine own_i2l (pc' := 34) C at_33 rfl rfl ?_
    refine own_ladd (pc' := 35) C at_34 rfl rfl ?_
    obtain ⟨v24_35, hv24_35⟩ : ∃ z : Int64, z = (p0 + (p5.toInt64)) := ⟨_, rfl⟩
    refine own_lstore (pc' := 37) (y := v24_35) (Ls' := #[.val (.long p0), .second, .val (.long p1), .second, .val (.long p2), .second, .val (.long p3), .second, .val (.long p4), .second, .val (.int p5), .val (.int (0 : Int32)), .val (.long p0), .second, .val (.long p1), .second, .val (.long p2), .second, .val (.long p3), .second, .val (.long p4), .second, .val (.long v22_28), .second, .val (.long v24_35), .second, .unset, .unset, .unset, .unset, .unset, .unset, .unset, .unset, .unset, .unset, .unset, .unset, .unset, .unset, .unset, .unset, .unset, .unset, .unset, .unset, .unset]) C at_35 hv24_35.symm rfl rfl ?_
    refine own_lload (pc' := 39) C at_37 rfl rfl ?_
    refine own_lstore (pc' := 41) (y := p4) (Ls' := #[.val (.long p0), .second, .val (.long p1), .second, .val (.long p2), .second, .val (.long p3), .second, .val (.long p4), .second, .val (.int p5), .val (.int (0 : Int32)), .val (.long p0), .second, .val (.long p1), .second, .val (.long p2), .second, .val (.long p3), .second, .val (.long p4), .second, .val (.long v22_28), .second, .val (.long v24_35), .second, .val (.long p4), .second, .unset, .unset, .unset, .unset, .unset, .unset, .unset, .unset, .unset, .unset, .unset, .unset, .unset, .unset, .unset, .unset, .unset, .unset, .unset]) C at_39 rfl rfl rfl ?_
    refine own_lload (pc' := 43) C at_41 rfl rfl ?_
    refine own_iload (pc' := 45) C at_43 rfl rfl ?_
    refine own_iconst (pc' := 46) (v := (2 : Int32)) C at_45 own_ki_2 rfl ?_
    refine own_ishr (pc' := 47) (v := (p5 >>> (2 : Int32))) C at_46 (own_sishr_2 _) rfl ?_
    refine own_i2l (pc' := 48) C at_47 rfl rfl ?_
    refine own_lxor (pc' := 49) C at_48 rfl rfl ?_
    obtain ⟨v28_49, hv28_49⟩ : ∃ z : Int64, z = (p2 ^^^ ((p5 >>> (2 : Int32)).toInt64)) := ⟨_, rfl⟩
    refine own_lstore (pc' := 51) (y := v28_49) (Ls' := #[.val (.long p0), .second, .val (.long p1), .second, .val (.long p2), .second, .val (.long p3), .second, .val (.long p4), .second, .val (.int p5), .val (.int (0 : Int32)), .val (.long p0), .second, .val (.long p1), .second, .val (.long p2), .second, .val (.long p3), .second, .val (.long p4), .second, .val (.long v22_28), .second, .val (.long v24_35), .second, .val (.long p4), .second, .val (.long v28_49), .second, .unset, .unset, .unset, .unset, .unset, .unset, .unset, .unset, .unset, .unset, .unset, .unset, .unset, .unset, .unset, .unset, .unset]) C at_49 hv28_49.symm rfl rfl ?_
    refine own_lloadN (pc' := 52) C at_51 rfl rfl ?_
    refine own_lload (pc' := 54) C at_52 rfl rfl ?_
    refine own_lsub (pc' := 55) C at_54 rfl rfl ?_
    obtain ⟨v30_55, hv30_55⟩ : ∃ z : Int64, z = (p1 - p2) := ⟨_, rfl⟩
    refine own_lstore (pc' := 57) (y := v30_55) (Ls' := #[.val (.long p0), .second, .val (.long p1), .second, .val (.long p2), .second, .val (.long p3), .second, .val (.long p4), .second, .val (.int p5), .val (.int (0 : Int32)), .val (.long p0), .second, .val (.long p1), .second, .val (.long p2), .second, .val (.long p3), .second, .val (.long p4), .second, .val (.long v22_28), .second, .val (.long v24_35), .second, .val (.long p4), .second, .val (.long v28_49), .second, .val (.long v30_55), .second, .unset, .unset, .unset, .unset, .unset, .unset, .unset, .unset, .unset, .unset, .unset, .unset, .unset, .unset, .unset]) C at_55 hv30_55.symm rfl rfl ?_
    refine own_iload (pc' := 59) C at_57 rfl rfl ?_
    refine own_iconst (pc' := 60) (v := (3 : Int32)) C at_59 own_ki_3 rfl ?_
    refine own_icmp_ne (pt := 83) (pf := 63) C at_60 (by decide) (by decide) rfl (fun _ => ?_) (fun q => absurd q (by decide))
    refine own_lload (pc' := 85) C at_83 rfl rfl ?_
    refine own_lload (pc' := 87) C at_85 rfl rfl ?_
    refine own_ladd (pc' := 88) C at_87 rfl rfl ?_
    obtain ⟨v32_88, hv32_88⟩ : ∃ z : Int64, z = (p0 + v22_28) := ⟨_, rfl⟩
    refine own_lstore (pc' := 90) (y := v32_88) (Ls' := #[.val (.long p0), .second, .val (.long p1), .second, .val (.long p2), .second, .val (.long p3), .second, .val (.long p4), .second, .val (.int p5), .val (.int (0 : Int32)), .val (.long p0), .second, .val (.long p1), .second, .val (.long p2), .second, .val (.long p3), .second, .val (.long p4), .second, .val (.long v22_28), .second, .val (.long v24_35), .second, .val (.long p4), .second, .val (.long v28_49), .second, .val (.long v30_55), .second, .val (.long v32_88), .second, .unset, .unset, .unset, .unset, .unset, .unset, .unset, .unset, .unset, .unset, .unset, .unset, .unset]) C at_88 hv32_88.symm rfl rfl ?_
    refine own_lload (pc' := 92) C at_90 rfl rfl ?_
    refine own_lload (pc' := 94) C at_92 rfl rfl ?_
    refine own_ladd (pc' := 95) C at_94 rfl rfl ?_
    obtain ⟨v34_95, hv34_95⟩ : ∃ z : Int64, z = (p1 + v24_35) := ⟨_, rfl⟩
    refine own_lstore (pc' := 97) (y := v34_95) (Ls' := #[.val (.long p0), .second, .val (.long p1), .second, .val (.long p2), .second, .val (.long p3), .second, .val (.long p4), .second, .val (.int p5), .val (.int (0 : Int32)), .val (.long p0), .second, .val (.long p1), .second, .val (.long p2), .second, .val (.long p3), .second, .val (.long p4), .second, .val (.long v22_28), .second, .val (.long v24_35), .second, .val (.long p4), .second, .val (.long v28_49), .second, .val (.long v30_55), .second, .val (.long v32_88), .second, .val (.long v34_95), .second, .unset, .unset, .unset, .unset, .unset, .unset, .unset, .unset, .unset, .unset, .unset]) C at_95 hv34_95.symm rfl rfl ?_
    refine own_lload (pc' := 99) C at_97 rfl rfl ?_
    refine own_lload (pc' := 101) C at_99 rfl rfl ?_
    refine own_ladd (pc' := 102) C at_101 rfl rfl ?_
    obtain ⟨v36_102, hv36_102⟩ : ∃ z : Int64, z = (p2 + p4) := ⟨_, rfl⟩
    refine own_lstore (pc' := 104) (y := v36_102) (Ls' := #[.val (.long p0), .second, .val (.long p1), .second, .val (.long p2), .second, .val (.long p3), .second, .val (.long p4), .second, .val (.int p5), .val (.int (0 : Int32)), .val (.long p0), .second, .val (.long p1), .second, .val (.long p2), .second, .val (.long p3), .second, .val (.long p4), .second, .val (.long v22_28), .second, .val (.long v24_35), .second, .val (.long p4), .second, .val (.long v28_49), .second, .val (.long v30_55), .second, .val (.long v32_88), .second, .val (.long v34_95), .second, .val (.long v36_102), .second, .unset, .unset, .unset, .unset, .unset, .unset, .unset, .unset, .unset]) C at_102 hv36_102.symm rfl rfl ?_
    refine own_lload (pc' := 106) C at_104 rfl rfl ?_
    refine own_lload (pc' := 108) C at_106 rfl rfl ?_
    refine own_ladd (pc' := 109) C at_108 rfl rfl ?_
    obtain ⟨v38_109, hv38_109⟩ : ∃ z : Int64, z = (p3 + v28_49) := ⟨_, rfl⟩
    refine own_lstore (pc' := 111) (y := v38_109) (Ls' := #[.val (.long p0), .second, .val (.long p1), .second, .val (.long p2), .second, .val (.long p3), .second, .val (.long p4), .second, .val (.int p5), .val (.int (0 : Int32)), .val (.long p0), .second, .val (.long p1), .second, .val (.long p2), .second, .val (.long p3), .second, .val (.long p4), .second, .val (.long v22_28), .second, .val (.long v24_35), .second, .val (.long p4), .second, .val (.long v28_49), .second, .val (.long v30_55), .second, .val (.long v32_88), .second, .val (.long v34_95), .second, .val (.long v36_102), .second, .val (.long v38_109), .second, .unset, .unset, .unset, .unset, .unset, .unset, .unset]) C at_109 hv38_109.symm rfl rfl ?_
    refine own_lload (pc' := 113) C at_111 rfl rfl ?_
    refine own_lload (pc' := 115) C at_113 rfl rfl ?_
    refine own_ladd (pc' := 116) C at_115 rfl rfl ?_
    obtain ⟨v40_116, hv40_116⟩ : ∃ z : Int64, z = (p4 + v30_55) := ⟨_, rfl⟩
    refine own_lstore (pc' := 118) (y := v40_116) (Ls' := #[.val (.long p0), .second, .val (.long p1), .second, .val (.long p2), .second, .val (.long p3), .second, .val (.long p4), .second, .val (.int p5), .val (.int (0 : Int32)), .val (.long p0), .second, .val (.long p1), .second, .val (.long p2), .second, .val (.long p3), .second, .val (.long p4), .second, .val (.long v22_28), .second, .val (.long v24_35), .second, .val (.long p4), .second, .val (.long v28_49), .second, .val (.long v30_55), .second, .val (.long v32_88), .second, .val (.long v34_95), .second, .val (.long v36_102), .second, .val (.long v38_109), .second, .val (.long v40_116), .second, .unset, .unset, .unset, .unset, .unset]) C at_116 hv40_116.symm rfl rfl ?_
    refine own_iconst (pc' := 119) (v := (5 : Int32)) C at_118 own_ki_5 rfl ?_
    refine own_newJ (pc' := 121) (len := 5) (cap := 5) C at_119 (hw _ (List.mem_of_getElem? (i := 0) rfl)) (by decide) rfl (by decide) (by decide) (by decide) (by decide) rfl ?_
    intro h1 b1 g1 X1 A_b1
    have g_b1 : n0 ≤ b1 := g1 ▸ Z_
    replace Z_ := Nat.le_trans Z_ X1.1
    replace A_b1 : AJ Z h1 b1 [(0 : Int64), (0 : Int64), (0 : Int64), (0 : Int64), (0 : Int64)] := A_b1
    refine own_dup (pc' := 122) C at_121 rfl rfl ?_
    refine own_iconst (pc' := 123) (v := (0 : Int32)) C at_122 own_ki_0 rfl ?_
    refine own_lload (pc' := 125) C at_123 rfl rfl ?_
    refine own_lastore (pc' := 126) (i := 0) (ys := [p0, (0 : Int64), (0 : Int64), (0 : Int64), (0 : Int64)]) C at_125 A_b1 (by decide) rfl (Nat.le_of_ble_eq_true rfl) rfl g_b1 rfl ?_
    intro h2 W2 A2_
    replace A_b1 := A2_
    replace Z_ : n0 ≤ _ := Nat.le_trans Z_ (Nat.le_of_eq W2.size.symm)
    refine own_dup (pc' := 127) C at_126 rfl rfl ?_
    refine own_iconst (pc' := 128) (v := (1 : Int32)) C at_127 own_ki_1 rfl ?_
    refine own_lload (pc' := 130) C at_128 rfl rfl ?_
    refine own_lastore (pc' := 131) (i := 1) (ys := [p0, p1, (0 : Int64), (0 : Int64), (0 : Int64)]) C at_130 A_b1 (by decide) rfl (Nat.le_of_ble_eq_true rfl) rfl g_b1 rfl ?_
    intro h3 W3 A3_
    replace A_b1 := A3_
    replace Z_ : n0 ≤ _ := Nat.le_trans Z_ (Nat.le_of_eq W3.size.symm)
    refine own_dup (pc' := 132) C at_131 rfl rfl ?_
    refine own_iconst (pc' := 133) (v := (2 : Int32)) C at_132 own_ki_2 rfl ?_
    refine own_lload (pc' := 135) C at_133 rfl rfl ?_
    refine own_lastore (pc' := 136) (i := 2) (ys := [p0, p1, p2, (0 : Int64), (0 : Int64)]) C at_135 A_b1 (by decide) rfl (Nat.le_of_ble_eq_true rfl) rfl g_b1 rfl ?_
    intro h4 W4 A4_
    replace A_b1 := A4_
    replace Z_ : n0 ≤ _ := Nat.le_trans Z_ (Nat.le_of_eq W4.size.symm)
    refine own_dup (pc' := 137) C at_136 rfl rfl ?_
    refine own_iconst (pc' := 138) (v := (3 : Int32)) C at_137 own_ki_3 rfl ?_
    refine own_lload (pc' := 140) C at_138 rfl rfl ?_
    refine own_lastore (pc' := 141) (i := 3) (ys := [p0, p1, p2, p3, (0 : Int64)]) C at_140 A_b1 (by decide) rfl (Nat.le_of_ble_eq_true rfl) rfl g_b1 rfl ?_
    intro h5 W5 A5_
    replace A_b1 := A5_
    replace Z_ : n0 ≤ _ := Nat.le_trans Z_ (Nat.le_of_eq W5.size.symm)
    refine own_dup (pc' := 142) C at_141 rfl rfl ?_
    refine own_iconst (pc' := 143) (v := (4 : Int32)) C at_142 own_ki_4 rfl ?_
    refine own_lload (pc' := 145) C at_143 rfl rfl ?_
    refine own_lastore (pc' := 146) (i := 4) (ys := [p0, p1, p2, p3, p4]) C at_145 A_b1 (by decide) rfl (Nat.le_of_ble_eq_true rfl) rfl g_b1 rfl ?_
    intro h6 W6 A6_
    replace A_b1 := A6_
    replace Z_ : n0 ≤ _ := Nat.le_trans Z_ (Nat.le_of_eq W6.size.symm)
    refine own_astore (pc' := 148) (Ls' := #[.val (.long p0), .second, .val (.long p1), .second, .val (.long p2), .second, .val (.long p3), .second, .val (.long p4), .second, .val (.int p5), .val (.int (0 : Int32)), .val (.long p0), .second, .val (.long p1), .second, .val (.long p2), .second, .val (.long p3), .second, .val (.long p4), .second, .val (.long v22_28), .second, .val (.long v24_35), .second, .val (.long p4), .second, .val (.long v28_49), .second, .val (.long v30_55), .second, .val (.long v32_88), .second, .val (.long v34_95), .second, .val (.long v36_102), .second, .val (.long v38_109), .second, .val (.long v40_116), .second, .val (.ref b1), .unset, .unset, .unset, .unset]) C at_146 rfl rfl rfl ?_
    refine own_iconst (pc' := 149) (v := (5 : Int32)) C at_148 own_ki_5 rfl ?_
    refine own_newJ (pc' := 151) (len := 5) (cap := 5) C at_149 (hw _ (List.mem_of_getElem? (i := 0) rfl)) (by decide) rfl (by decide) (by decide) (by decide) (by decide) rfl ?_
    intro h7 b7 g7 X7 A_b7
    have ne_b1_b7 : b1 ≠ b7 := Nat.ne_of_lt (g7 ▸ A_b1.lt)
    replace A_b1 := A_b1.ext X7
    have g_b7 : n0 ≤ b7 := g7 ▸ Z_
    replace Z_ := Nat.le_trans Z_ X7.1
    replace A_b7 : AJ Z h7 b7 [(0 : Int64), (0 : Int64), (0 : Int64), (0 : Int64), (0 : Int64)] := A_b7
    refine own_dup (pc' := 152) C at_151 rfl rfl ?_
    refine own_iconst (pc' := 153) (v := (0 : Int32)) C at_152 own_ki_0 rfl ?_
    refine own_lload (pc' := 155) C at_153 rfl rfl ?_
    refine own_lastore (pc' := 156) (i := 0) (ys := [v22_28, (0 : Int64), (0 : Int64), (0 : Int64), (0 : Int64)]) C at_155 A_b7 (by decide) rfl (Nat.le_of_ble_eq_true rfl) rfl g_b7 rfl ?_
    intro h8 W8 A8_
    replace A_b1 := A_b1.other W8 ne_b1_b7
    replace A_b7 := A8_
    replace Z_ : n0 ≤ _ := Nat.le_trans Z_ (Nat.le_of_eq W8.size.symm)
    refine own_dup (pc' := 157) C at_156 rfl rfl ?_
    refine own_iconst (pc' := 158) (v := (1 : Int32)) C at_157 own_ki_1 rfl ?_
    refine own_lload (pc' := 160) C at_158 rfl rfl ?_
    refine own_lastore (pc' := 161) (i := 1) (ys := [v22_28, v24_35, (0 : Int64), (0 : Int64), (0 : Int64)]) C at_160 A_b7 (by decide) rfl (Nat.le_of_ble_eq_true rfl) rfl g_b7 rfl ?_
    intro h9 W9 A9_
    replace A_b1 := A_b1.other W9 ne_b1_b7
    replace A_b7 := A9_
    replace Z_ : n0 ≤ _ := Nat.le_trans Z_ (Nat.le_of_eq W9.size.symm)
    refine own_dup (pc' := 162) C at_161 rfl rfl ?_
    refine own_iconst (pc' := 163) (v := (2 : Int32)) C at_162 own_ki_2 rfl ?_
    refine own_lload (pc' := 165) C at_163 rfl rfl ?_
    refine own_lastore (pc' := 166) (i := 2) (ys := [v22_28, v24_35, p4, (0 : Int64), (0 : Int64)]) C at_165 A_b7 (by decide) rfl (Nat.le_of_ble_eq_true rfl) rfl g_b7 rfl ?_
    intro h10 W10 A10_
    replace A_b1 := A_b1.other W10 ne_b1_b7
    replace A_b7 := A10_
    replace Z_ : n0 ≤ _ := Nat.le_trans Z_ (Nat.le_of_eq W10.size.symm)
    refine own_dup (pc' := 167) C at_166 rfl rfl ?_
    refine own_iconst (pc' := 168) (v := (3 : Int32)) C at_167 own_ki_3 rfl ?_
    refine own_lload (pc' := 170) C at_168 rfl rfl ?_
    refine own_lastore (pc' := 171) (i := 3) (ys := [v22_28, v24_35, p4, v28_49, (0 : Int64)]) C at_170 A_b7 (by decide) rfl (Nat.le_of_ble_eq_true rfl) rfl g_b7 rfl ?_
    intro h11 W11 A11_
    replace A_b1 := A_b1.other W11 ne_b1_b7
    replace A_b7 := A11_
    replace Z_ : n0 ≤ _ := Nat.le_trans Z_ (Nat.le_of_eq W11.size.symm)
    refine own_dup (pc' := 172) C at_171 rfl rfl ?_
    refine own_iconst (pc' := 173) (v := (4 : Int32)) C at_172 own_ki_4 rfl ?_
    refine own_lload (pc' := 175) C at_173 rfl rfl ?_
    refine own_lastore (pc' := 176) (i := 4) (ys := [v22_28, v24_35, p4, v28_49, v30_55]) C at_175 A_b7 (by decide) rfl (Nat.le_of_ble_eq_true rfl) rfl g_b7 rfl ?_
    intro h12 W12 A12_
    replace A_b1 := A_b1.other W12 ne_b1_b7
    replace A_b7 := A12_
    replace Z_ : n0 ≤ _ := Nat.le_trans Z_ (Nat.le_of_eq W12.size.symm)
    refine own_astore (pc' := 178) (Ls' := #[.val (.long p0), .second, .val (.long p1), .second, .val (.long p2), .second, .val (.long p3), .second, .val (.long p4), .second, .val (.int p5), .val (.int (0 : Int32)), .val (.long p0), .second, .val (.long p1), .second, .val (.long p2), .second, .val (.long p3), .second, .val (.long p4), .second, .val (.long v22_28), .second, .val (.long v24_35), .second, .val (.long p4), .second, .val (.long v28_49), .second, .val (.long v30_55), .second, .val (.long v32_88), .second, .val (.long v34_95), .second, .val (.long v36_102), .second, .val (.long v38_109), .second, .val (.long v40_116), .second, .val (.ref b1), .val (.ref b7), .unset, .unset, .unset]) C at_176 rfl rfl rfl ?_
    refine own_iconst (pc' := 179) (v := (5 : Int32)) C at_178 own_ki_5 rfl ?_
    refine own_newJ (pc' := 181) (len := 5) (cap := 5) C at_179 (hw _ (List.mem_of_getElem? (i := 0) rfl)) (by decide) rfl (by decide) (by decide) (by decide) (by decide) rfl ?_
    intro h13 b13 g13 X13 A_b13
    have ne_b1_b13 : b1 ≠ b13 := Nat.ne_of_lt (g13 ▸ A_b1.lt)
    have ne_b7_b13 : b7 ≠ b13 := Nat.ne_of_lt (g13 ▸ A_b7.lt)
    replace A_b1 := A_b1.ext X13
    replace A_b7 := A_b7.ext X13
    have g_b13 : n0 ≤ b13 := g13 ▸ Z_
    replace Z_ := Nat.le_trans Z_ X13.1
    replace A_b13 : AJ Z h13 b13 [(0 : Int64), (0 : Int64), (0 : Int64), (0 : Int64), (0 : Int64)] := A_b13
    refine own_dup (pc' := 182) C at_181 rfl rfl ?_
    refine own_iconst (pc' := 183) (v := (0 : Int32)) C at_182 own_ki_0 rfl ?_
    refine own_lloadN (pc' := 184) C at_183 rfl rfl ?_
    refine own_lastore (pc' := 185) (i := 0) (ys := [p1, (0 : Int64), (0 : Int64), (0 : Int64), (0 : Int64)]) C at_184 A_b13 (by decide) rfl (Nat.le_of_ble_eq_true rfl) rfl g_b13 rfl ?_
    intro h14 W14 A14_
    replace A_b1 := A_b1.other W14 ne_b1_b13
    replace A_b7 := A_b7.other W14 ne_b7_b13
    replace A_b13 := A14_
    replace Z_ : n0 ≤ _ := Nat.le_trans Z_ (Nat.le_of_eq W14.size.symm)
    refine own_dup (pc' := 186) C at_185 rfl rfl ?_
    refine own_iconst (pc' := 187) (v := (1 : Int32)) C at_186 own_ki_1 rfl ?_
    refine own_lload (pc' := 189) C at_187 rfl rfl ?_
    refine own_lastore (pc' := 190) (i := 1) (ys := [p1, p2, (0 : Int64), (0 : Int64), (0 : Int64)]) C at_189 A_b13 (by decide) rfl (Nat.le_of_ble_eq_true rfl) rfl g_b13 rfl ?_
    intro h15 W15 A15_
    replace A_b1 := A_b1.other W15 ne_b1_b13
    replace A_b7 := A_b7.other W15 ne_b7_b13
    replace A_b13 := A15_
    replace Z_ : n0 ≤ _ := Nat.le_trans Z_ (Nat.le_of_eq W15.size.symm)
    refine own_dup (pc' := 191) C at_190 rfl rfl ?_
    refine own_iconst (pc' := 192) (v := (2 : Int32)) C at_191 own_ki_2 rfl ?_
    refine own_lload (pc' := 194) C at_192 rfl rfl ?_
    refine own_lastore (pc' := 195) (i := 2) (ys := [p1, p2, p3, (0 : Int64), (0 : Int64)]) C at_194 A_b13 (by decide) rfl (Nat.le_of_ble_eq_true rfl) rfl g_b13 rfl ?_
    intro h16 W16 A16_
    replace A_b1 := A_b1.other W16 ne_b1_b13
    replace A_b7 := A_b7.other W16 ne_b7_b13
    replace A_b13 := A16_
    replace Z_ : n0 ≤ _ := Nat.le_trans Z_ (Nat.le_of_eq W16.size.symm)
    refine own_dup (pc' := 196) C at_195 rfl rfl ?_
    refine own_iconst (pc' := 197) (v := (3 : Int32)) C at_196 own_ki_3 rfl ?_
    refine own_lload (pc' := 199) C at_197 rfl rfl ?_
    refine own_lastore (pc' := 200) (i := 3) (ys := [p1, p2, p3, p4, (0 : Int64)]) C at_199 A_b13 (by decide) rfl (Nat.le_of_ble_eq_true rfl) rfl g_b13 rfl ?_
    intro h17 W17 A17_
    replace A_b1 := A_b1.other W17 ne_b1_b13
    replace A_b7 := A_b7.other W17 ne_b7_b13
    replace A_b13 := A17_
    replace Z_ : n0 ≤ _ := Nat.le_trans Z_ (Nat.le_of_eq W17.size.symm)
    refine own_dup (pc' := 201) C at_200 rfl rfl ?_
    refine own_iconst (pc' := 202) (v := (4 : Int32)) C at_201 own_ki_4 rfl ?_
    refine own_lloadN (pc' := 203) C at_202 rfl rfl ?_
    refine own_lastore (pc' := 204) (i := 4) (ys := [p1, p2, p3, p4, p0]) C at_203 A_b13 (by decide) rfl (Nat.le_of_ble_eq_true rfl) rfl g_b13 rfl ?_
    intro h18 W18 A18_
    replace A_b1 := A_b1.other W18 ne_b1_b13
    replace A_b7 := A_b7.other W18 ne_b7_b13
    replace A_b13 := A18_
    replace Z_ : n0 ≤ _ := Nat.le_trans Z_ (Nat.le_of_eq W18.size.symm)
    refine own_astore (pc' := 206) (Ls' := #[.val (.long p0), .second, .val (.long p1), .second, .val (.long p2), .second, .val (.long p3), .second, .val (.long p4), .second, .val (.int p5), .val (.int (0 : Int32)), .val (.long p0), .second, .val (.long p1), .second, .val (.long p2), .second, .val (.long p3), .second, .val (.long p4), .second, .val (.long v22_28), .second, .val (.long v24_35), .second, .val (.long p4), .second, .val (.long v28_49), .second, .val (.long v30_55), .second, .val (.long v32_88), .second, .val (.long v34_95), .second, .val (.long v36_102), .second, .val (.long v38_109), .second, .val (.long v40_116), .second, .val (.ref b1), .val (.ref b7), .val (.ref b13), .unset, .unset]) C at_204 rfl rfl rfl ?_
    refine own_aload (pc' := 208) C at_206 rfl rfl rfl ?_
    refine own_astore (pc' := 210) (Ls' := #[.val (.long p0), .second, .val (.long p1), .second, .val (.long p2), .second, .val (.long p3), .second, .val (.long p4), .second, .val (.int p5), .val (.int (0 : Int32)), .val (.long p0), .second, .val (.long p1), .second, .val (.long p2), .second, .val (.long p3), .second, .val (.long p4), .second, .val (.long v22_28), .second, .val (.long v24_35), .second, .val (.long p4), .second, .val (.long v28_49), .second, .val (.long v30_55), .second, .val (.long v32_88), .second, .val (.long v34_95), .second, .val (.long v36_102), .second, .val (.long v38_109), .second, .val (.long v40_116), .second, .val (.ref b1), .val (.ref b7), .val (.ref b13), .val (.ref b13), .unset]) C at_208 rfl rfl rfl ?_
    refine own_iload (pc' := 212) C at_210 rfl rfl ?_
    refine own_iconst (pc' := 213) (v := (1 : Int32)) C at_212 own_ki_1 rfl ?_
    refine own_icmp_ne (pt := 223) (pf := 216) C at_213 (by decide) (by decide) rfl (fun _ => ?_) (fun q => absurd q (by decide))
    refine own_iload (pc' := 225) C at_223 rfl rfl ?_
    refine own_iconst (pc' := 226) (v := (2 : Int32)) C at_225 own_ki_2 rfl ?_
    refine own_icmp_ne (pt := 236) (pf := 229) C at_226 (by decide) (by decide) rfl (fun _ => ?_) (fun q => absurd q (by decide))
    refine own_iload (pc' := 238) C at_236 rfl rfl ?_
    refine own_iconst (pc' := 239) (v := (3 : Int32)) C at_238 own_ki_3 rfl ?_
    refine own_icmp_ne (pt := 250) (pf := 242) C at_239 (by decide) (by decide) rfl (fun _ => ?_) (fun q => absurd q (by decide))
    refine own_aload (pc' := 252) C at_250 rfl rfl rfl ?_
    refine own_aload (pc' := 254) C at_252 rfl rfl rfl ?_
    refine own_aload (pc' := 256) C at_254 rfl rfl rfl ?_
    refine own_callS (pc' := 259) (wL := 0) (argsL := [(.ref b13), (.ref b1), (.ref b7)]) (rest := []) C (own_add0 l Z a0 hw b13 b1 b7 p1 p2 p3 p4 p0 p0 p1 p2 p3 p4 v22_28 v24_35 p4 v28_49 v30_55 h18 n0 Z_ A_b13 A_b1 A_b7 g_b13 (Ne.symm ne_b1_b13) (Ne.symm ne_b7_b13) ne_b1_b7) at_256 (hw _ (List.mem_of_getElem? (i := 1) rfl)) (hw _ (List.mem_of_getElem? (i := 2) rfl)) (hw _ (List.mem_of_getElem? (i := 3) rfl)) (hw _ (List.mem_of_getElem? (i := 4) rfl)) (by decide) (by decide) (by decide) rfl (lenOf pd1 rfl) rfl rfl (Nat.le_of_eq rfl) (by decide) (by decide) rfl ?_
    rintro _ h19 ⟨rfl, K19, A19_⟩
    replace A_b1 := A_b1.keep K19 (ninS ne_b1_b13 nin0)
    replace A_b7 := A_b7.keep K19 (ninS ne_b7_b13 nin0)
    replace Z_ := Nat.le_trans Z_ K19.1
    replace A_b13 := A19_
    show Wp p l e _ s m _ below meth c n0 _ h19 (((0 + 1) + 1) + 1) (((0 + 5) + 5) + 5) (mkF m 259 #[.val (.long p0), .second, .val (.long p1), .second, .val (.long p2), .second, .val (.long p3), .second, .val (.long p4), .second, .val (.int p5), .val (.int (0 : Int32)), .val (.long p0), .second, .val (.long p1), .second, .val (.long p2), .second, .val (.long p3), .second, .val (.long p4), .second, .val (.long v22_28), .second, .val (.long v24_35), .second, .val (.long p4), .second, .val (.long v28_49), .second, .val (.long v30_55), .second, .val (.long v32_88), .second, .val (.long v34_95), .second, .val (.long v36_102), .second, .val (.long v38_109), .second, .val (.long v40_116), .second, .val (.ref b1), .val (.ref b7), .val (.ref b13), .val (.ref b13), .unset] [])
    refine own_aload (pc' := 261) C at_259 rfl rfl rfl ?_
    refine own_iconst (pc' := 262) (v := (0 : Int32)) C at_261 own_ki_0 rfl ?_
    refine own_laload (pc' := 263) (v := (p0 + v22_28)) (i := 0) C at_262 A_b13 (by decide) rfl rfl rfl ?_
    refine own_lload (pc' := 265) C at_263 rfl rfl ?_
    refine own_lcmp_ne (pt := 313) (pf := 269) C at_265 rfl at_266 (by decide) (by decide) rfl (fun q => absurd hv32_88.symm q) (fun _ => ?_)
    refine own_aload (pc' := 271) C at_269 rfl rfl rfl ?_
    refine own_iconst (pc' := 272) (v := (1 : Int32)) C at_271 own_ki_1 rfl ?_
    refine own_laload (pc' := 273) (v := (p1 + v24_35)) (i := 1) C at_272 A_b13 (by decide) rfl rfl rfl ?_
    refine own_lload (pc' := 275) C at_273 rfl rfl ?_
    refine own_lcmp_ne (pt := 313) (pf := 279) C at_275 rfl at_276 (by decide) (by decide) rfl (fun q => absurd hv34_95.symm q) (fun _ => ?_)
    refine own_aload (pc' := 281) C at_279 rfl rfl rfl ?_
    refine own_iconst (pc' := 282) (v := (2 : Int32)) C at_281 own_ki_2 rfl ?_
    refine own_laload (pc' := 283) (v := (p2 + p4)) (i := 2) C at_282 A_b13 (by decide) rfl rfl rfl ?_
    refine own_lload (pc' := 285) C at_283 rfl rfl ?_
    refine own_lcmp_ne (pt := 313) (pf := 289) C at_285 rfl at_286 (by decide) (by decide) rfl (fun q => absurd hv36_102.symm q) (fun _ => ?_)
    refine own_aload (pc' := 291) C at_289 rfl rfl rfl ?_
    refine own_iconst (pc' := 292) (v := (3 : Int32)) C at_291 own_ki_3 rfl ?_
    refine own_laload (pc' := 293) (v := (p3 + v28_49)) (i := 3) C at_292 A_b13 (by decide) rfl rfl rfl ?_
    refine own_lload (pc' := 295) C at_293 rfl rfl ?_
    refine own_lcmp_ne (pt := 313) (pf := 299) C at_295 rfl at_296 (by decide) (by decide) rfl (fun q => absurd hv38_109.symm q) (fun _ => ?_)
    refine own_aload (pc' := 301) C at_299 rfl rfl rfl ?_
    refine own_iconst (pc' := 302) (v := (4 : Int32)) C at_301 own_ki_4 rfl ?_
    refine own_laload (pc' := 303) (v := (p4 + v30_55)) (i := 4) C at_302 A_b13 (by decide) rfl rfl rfl ?_
    refine own_lload (pc' := 305) C at_303 rfl rfl ?_
    refine own_lcmp_ne (pt := 313) (pf := 309) C at_305 rfl at_306 (by decide) (by decide) rfl (fun q => absurd hv40_116.symm q) (fun _ => ?_)
    refine own_iconst (pc' := 310) (v := (1 : Int32)) C at_309 own_ki_1 rfl ?_
    refine own_goto (pc' := 314) C at_310 (by decide) (by decide) ?_
    refine own_istore (pc' := 316) (y := (1 : Int32)) (Ls' := #[.val (.long p0), .second, .val (.long p1), .second, .val (.long p2), .second, .val (.long p3), .second, .val (.long p4), .second, .val (.int p5), .val (.int (0 : Int32)), .val (.long p0), .second, .val (.long p1), .second, .val (.long p2), .second, .val (.long p3), .second, .val (.long p4), .second, .val (.long v22_28), .second, .val (.long v24_35), .second, .val (.long p4), .second, .val (.long v28_49), .second, .val (.long v30_55), .second, .val (.long v32_88), .second, .val (.long v34_95), .second, .val (.long v36_102), .second, .val (.long v38_109), .second, .val (.long v40_116), .second, .val (.ref b1), .val (.ref b7), .val (.ref b13), .val (.ref b13), .val (.int (1 : Int32))]) C at_314 rfl rfl rfl ?_
    refine own_iload (pc' := 318) C at_316 rfl rfl ?_
    refine own_if_eq (pt := 327) (pf := 321) C at_318 (by decide) (by decide) rfl (fun _ => ?_) (fun q => absurd (by decide) q)
    refine own_iload (pc' := 329) C at_327 rfl rfl ?_
    refine own_if_eq (pt := 386) (pf := 332) C at_329 (by decide) (by decide) rfl (fun q => absurd q (by decide)) (fun _ => ?_)
    refine own_aload (pc' := 334) C at_332 rfl rfl rfl ?_
    refine own_iconst (pc' := 335) (v := (0 : Int32)) C at_334 own_ki_0 rfl ?_
    refine own_laload (pc' := 336) (v := p0) (i := 0) C at_335 A_b1 (by decide) rfl rfl rfl ?_
    refine own_lload (pc' := 338) C at_336 rfl rfl ?_
    refine own_lcmp_ne (pt := 386) (pf := 342) C at_338 rfl at_339 (by decide) (by decide) rfl (fun q => absurd rfl q) (fun _ => ?_)
    refine own_aload (pc' := 344) C at_342 rfl rfl rfl ?_
    refine own_iconst (pc' := 345) (v := (1 : Int32)) C at_344 own_ki_1 rfl ?_
    refine own_laload (pc' := 346) (v := p1) (i := 1) C at_345 A_b1 (by decide) rfl rfl rfl ?_
    refine own_lload (pc' := 348) C at_346 rfl rfl ?_
    refine own_lcmp_ne (pt := 386) (pf := 352) C at_348 rfl at_349 (by decide) (by decide) rfl (fun q => absurd rfl q) (fun _ => ?_)
    refine own_aload (pc' := 354) C at_352 rfl rfl rfl ?_
    refine own_iconst (pc' := 355) (v := (2 : Int32)) C at_354 own_ki_2 rfl ?_
    refine own_laload (pc' := 356) (v := p2) (i := 2) C at_355 A_b1 (by decide) rfl rfl rfl ?_
    refine own_lload (pc' := 358) C at_356 rfl rfl ?_
    refine own_lcmp_ne (pt := 386) (pf := 362) C at_358 rfl at_359 (by decide) (by decide) rfl (fun q => absurd rfl q) (fun _ => ?_)
    refine own_aload (pc' := 364) C at_362 rfl rfl rfl ?_
    refine own_iconst (pc' := 365) (v := (3 : Int32)) C at_364 own_ki_3 rfl ?_
    refine own_laload (pc' := 366) (v := p3) (i := 3) C at_365 A_b1 (by decide) rfl rfl rfl ?_
    refine own_lload (pc' := 368) C at_366 rfl rfl ?_
    refine own_lcmp_ne (pt := 386) (pf := 372) C at_368 rfl at_369 (by decide) (by decide) rfl (fun q => absurd rfl q) (fun _ => ?_)
    refine own_aload (pc' := 374) C at_372 rfl rfl rfl ?_
    refine own_iconst (pc' := 375) (v := (4 : Int32)) C at_374 own_ki_4 rfl ?_
    refine own_laload (pc' := 376) (v := p4) (i := 4) C at_375 A_b1 (by decide) rfl rfl rfl ?_
    refine own_lload (pc' := 378) C at_376 rfl rfl ?_
    refine own_lcmp_ne (pt := 386) (pf := 382) C at_378 rfl at_379 (by decide) (by decide) rfl (fun q => absurd rfl q) (fun _ => ?_)
    refine own_iconst (pc' := 383) (v := (1 : Int32)) C at_382 own_ki_1 rfl ?_
    refine own_goto (pc' := 387) C at_383 (by decide) (by decide) ?_
    refine own_istore (pc' := 389) (y := (1 : Int32)) (Ls' := #[.val (.long p0), .second, .val (.long p1), .second, .val (.long p2), .second, .val (.long p3), .second, .val (.long p4), .second, .val (.int p5), .val (.int (0 : Int32)), .val (.long p0), .second, .val (.long p1), .second, .val (.long p2), .second, .val (.long p3), .second, .val (.long p4), .second, .val (.long v22_28), .second, .val (.long v24_35), .second, .val (.long p4), .second, .val (.long v28_49), .second, .val (.long v30_55), .second, .val (.long v32_88), .second, .val (.long v34_95), .second, .val (.long v36_102), .second, .val (.long v38_109), .second, .val (.long v40_116), .second, .val (.ref b1), .val (.ref b7), .val (.ref b13), .val (.ref b13), .val (.int (1 : Int32))]) C at_387 rfl rfl rfl ?_
    refine own_iload (pc' := 391) C at_389 rfl rfl ?_
    refine own_if_eq (pt := 400) (pf := 394) C at_391 (by decide) (by decide) rfl (fun _ => ?_) (fun q => absurd (by decide) q)
    refine own_iload (pc' := 402) C at_400 rfl rfl ?_
    refine own_if_eq (pt := 459) (pf := 405) C at_402 (by decide) (by decide) rfl (fun q => absurd q (by decide)) (fun _ => ?_)
    refine own_aload (pc' := 407) C at_405 rfl rfl rfl ?_
    refine own_iconst (pc' := 408) (v := (0 : Int32)) C at_407 own_ki_0 rfl ?_
    refine own_laload (pc' := 409) (v := v22_28) (i := 0) C at_408 A_b7 (by decide) rfl rfl rfl ?_
    refine own_lload (pc' := 411) C at_409 rfl rfl ?_
    refine own_lcmp_ne (pt := 459) (pf := 415) C at_411 rfl at_412 (by decide) (by decide) rfl (fun q => absurd rfl q) (fun _ => ?_)
    refine own_aload (pc' := 417) C at_415 rfl rfl rfl ?_
    refine own_iconst (pc' := 418) (v := (1 : Int32)) C at_417 own_ki_1 rfl ?_
    refine own_laload (pc' := 419) (v := v24_35) (i := 1) C at_418 A_b7 (by decide) rfl rfl rfl ?_
    refine own_lload (pc' := 421) C at_419 rfl rfl ?_
    refine own_lcmp_ne (pt := 459) (pf := 425) C at_421 rfl at_422 (by decide) (by decide) rfl (fun q => absurd rfl q) (fun _ => ?_)
    refine own_aload (pc' := 427) C at_425 rfl rfl rfl ?_
    refine own_iconst (pc' := 428) (v := (2 : Int32)) C at_427 own_ki_2 rfl ?_
    refine own_laload (pc' := 429) (v := p4) (i := 2) C at_428 A_b7 (by decide) rfl rfl rfl ?_
    refine own_lload (pc' := 431) C at_429 rfl rfl ?_
    refine own_lcmp_ne (pt := 459) (pf := 435) C at_431 rfl at_432 (by decide) (by decide) rfl (fun q => absurd rfl q) (fun _ => ?_)
    refine own_aload (pc' := 437) C at_435 rfl rfl rfl ?_
    refine own_iconst (pc' := 438) (v := (3 : Int32)) C at_437 own_ki_3 rfl ?_
    refine own_laload (pc' := 439) (v := v28_49) (i := 3) C at_438 A_b7 (by decide) rfl rfl rfl ?_
    refine own_lload (pc' := 441) C at_439 rfl rfl ?_
    refine own_lcmp_ne (pt := 459) (pf := 445) C at_441 rfl at_442 (by decide) (by decide) rfl (fun q => absurd rfl q) (fun _ => ?_)
    refine own_aload (pc' := 447) C at_445 rfl rfl rfl ?_
    refine own_iconst (pc' := 448) (v := (4 : Int32)) C at_447 own_ki_4 rfl ?_
    refine own_laload (pc' := 449) (v := v30_55) (i := 4) C at_448 A_b7 (by decide) rfl rfl rfl ?_
    refine own_lload (pc' := 451) C at_449 rfl rfl ?_
    refine own_lcmp_ne (pt := 459) (pf := 455) C at_451 rfl at_452 (by decide) (by decide) rfl (fun q => absurd rfl q) (fun _ => ?_)
    refine own_iconst (pc' := 456) (v := (1 : Int32)) C at_455 own_ki_1 rfl ?_
    refine own_goto (pc' := 460) C at_456 (by decide) (by decide) ?_
    refine own_istore (pc' := 462) (y := (1 : Int32)) (Ls' := #[.val (.long p0), .second, .val (.long p1), .second, .val (.long p2), .second, .val (.long p3), .second, .val (.long p4), .second, .val (.int p5), .val (.int (0 : Int32)), .val (.long p0), .second, .val (.long p1), .second, .val (.long p2), .second, .val (.long p3), .second, .val (.long p4), .second, .val (.long v22_28), .second, .val (.long v24_35), .second, .val (.long p4), .second, .val (.long v28_49), .second, .val (.long v30_55), .second, .val (.long v32_88), .second, .val (.long v34_95), .second, .val (.long v36_102), .second, .val (.long v38_109), .second, .val (.long v40_116), .second, .val (.ref b1), .val (.ref b7), .val (.ref b13), .val (.ref b13), .val (.int (1 : Int32))]) C at_460 rfl rfl rfl ?_
    refine own_iload (pc' := 464) C at_462 rfl rfl ?_
    refine own_zret C at_464 (by decide) (by decide) (Or.inr rfl) ?_
    exact rfl
  · subst q
    refine own_lloadN (pc' := 7) C at_6 rfl rfl ?_
    refine own_lstore (pc' := 9) (y := p0) (Ls' := #[.val (.long p0), .second, .val (.long p1), .second, .val (.long p2), .second, .val (.long p3), .second, .val (.long p4), .second, .val (.int p5), .val (.int (1 : Int32)), .val (.long p0), .second, .unset, .unset, .unset, .unset, .unset, .unset, .unset, .unset, .unset, .unset, .unset, .unset, .unset, .unset, .unset, .unset, .unset, .unset, .unset, .unset, .unset, .unset, .unset, .unset, .unset, .unset, .unset, .unset, .unset, .unset, .unset, .unset, .unset]) C at_7 rfl rfl rfl ?_
    refine own_lloadN (pc' := 10) C at_9 rfl rfl ?_
    refine own_lstore (pc' := 12) (y := p1) (Ls' := #[.val (.long p0), .second, .val (.long p1), .second, .val (.long p2), .second, .val (.long p3), .second, .val (.long p4), .second, .val (.int p5), .val (.int (1 : Int32)), .val (.long p0), .second, .val (.long p1), .second, .unset, .unset, .unset, .unset, .unset, .unset, .unset, .unset, .unset, .unset, .unset, .unset, .unset, .unset, .unset, .unset, .unset, .unset, .unset, .unset, .unset, .unset, .unset, .unset, .unset, .unset, .unset, .unset, .unset, .unset, .unset]) C at_10 rfl rfl rfl ?_
    refine own_lload (pc' := 14) C at_12 rfl rfl ?_
    refine own_lstore (pc' := 16) (y := p2) (Ls' := #[.val (.long p0), .second, .val (.long p1), .second, .val (.long p2), .second, .val (.long p3), .second, .val (.long p4), .second, .val (.int p5), .val (.int (1 : Int32)), .val (.long p0), .second, .val (.long p1), .second, .val (.long p2), .second, .unset, .unset, .unset, .unset, .unset, .unset, .unset, .unset, .unset, .unset, .unset, .unset, .unset, .unset, .unset, .unset, .unset, .unset, .unset, .unset, .unset, .unset, .unset, .unset, .unset, .unset, .unset, .unset, .unset]) C at_14 rfl rfl rfl ?_
    refine own_lload (pc' := 18) C at_16 rfl rfl ?_
    refine own_lstore (pc' := 20) (y := p3) (Ls' := #[.val (.long p0), .second, .val (.long p1), .second, .val (.long p2), .second, .val (.long p3), .second, .val (.long p4), .second, .val (.int p5), .val (.int (1 : Int32)), .val (.long p0), .second, .val (.long p1), .second, .val (.long p2), .second, .val (.long p3), .second, .unset, .unset, .unset, .unset, .unset, .unset, .unset, .unset, .unset, .unset, .unset, .unset, .unset, .unset, .unset, .unset, .unset, .unset, .unset, .unset, .unset, .unset, .unset, .unset, .unset, .unset, .unset]) C at_18 rfl rfl rfl ?_
    refine own_lload (pc' := 22) C at_20 rfl rfl ?_
    refine own_lstore (pc' := 24) (y := p4) (Ls' := #[.val (.long p0), .second, .val (.long p1), .second, .val (.long p2), .second, .val (.long p3), .second, .val (.long p4), .second, .val (.int p5), .val (.int (1 : Int32)), .val (.long p0), .second, .val (.long p1), .second, .val (.long p2), .second, .val (.long p3), .second, .val (.long p4), .second, .unset, .unset, .unset, .unset, .unset, .unset, .unset, .unset, .unset, .unset, .unset, .unset, .unset, .unset, .unset, .unset, .unset, .unset, .unset, .unset, .unset, .unset, .unset, .unset, .unset]) C at_22 rfl rfl rfl ?_
    refine own_lload (pc' := 26) C at_24 rfl rfl ?_
    refine own_lloadN (pc' := 27) C at_26 rfl rfl ?_
    refine own_lxor (pc' := 28) C at_27 rfl rfl ?_
    obtain ⟨v22_28, hv22_28⟩ : ∃ z : Int64, z = (p3 ^^^ p1) := ⟨_, rfl⟩
    refine own_lstore (pc' := 30) (y := v22_28) (Ls' := #[.val (.long p0), .second, .val (.long p1), .second, .val (.long p2), .second, .val (.long p3), .second, .val (.long p4), .second, .val (.int p5), .val (.int (1 : Int32)), .val (.long p0), .second, .val (.long p1), .second, .val (.long p2), .second, .val (.long p3), .second, .val (.long p4), .second, .val (.long v22_28), .second, .unset, .unset, .unset, .unset, .unset, .unset, .unset, .unset, .unset, .unset, .unset, .unset, .unset, .unset, .unset, .unset, .unset, .unset, .unset, .unset, .unset, .unset, .unset]) C at_28 hv22_28.symm rfl rfl ?_
    refine own_lloadN (pc' := 31) C at_30 rfl rfl ?_
    refine own_iload (pc' := 33) C at_31 rfl rfl ?_
    refine own_i2l (pc' := 34) C at_33 rfl rfl ?_
    refine own_ladd (pc' := 35) C at_34 rfl rfl ?_
    obtain ⟨v24_35, hv24_35⟩ : ∃ z : Int64, z = (p0 + (p5.toInt64)) := ⟨_, rfl⟩
    refine own_lstore (pc' := 37) (y := v24_35) (Ls' := #[.val (.long p0), .second, .val (.long p1), .second, .val (.long p2), .second, .val (.long p3), .second, .val (.long p4), .second, .val (.int p5), .val (.int (1 : Int32)), .val (.long p0), .second, .val (.long p1), .second, .val (.long p2), .second, .val (.long p3), .second, .val (.long p4), .second, .val (.long v22_28), .second, .val (.long v24_35), .second, .unset, .unset, .unset, .unset, .unset, .unset, .unset, .unset, .unset, .unset, .unset, .unset, .unset, .unset, .unset, .unset, .unset, .unset, .unset, .unset, .unset]) C at_35 hv24_35.symm rfl rfl ?_
    refine own_lload (pc' := 39) C at_37 rfl rfl ?_
    refine own_lstore (pc' := 41) (y := p4) (Ls' := #[.val (.long p0), .second, .val (.long p1), .second, .val (.long p2), .second, .val (.long p3), .second, .val (.long p4), .second, .val (.int p5), .val (.int (1 : Int32)), .val (.long p0), .second, .val (.long p1), .second, .val (.long p2), .second, .val (.long p3), .second, .val (.long p4), .second, .val (.long v22_28), .second, .val (.long v24_35), .second, .val (.long p4), .second, .unset, .unset, .unset, .unset, .unset, .unset, .unset, .unset, .unset, .unset, .unset, .unset, .unset, .unset, .unset, .unset, .unset, .unset, .unset]) C at_39 rfl rfl rfl ?_
    refine own_lload (pc' := 43) C at_41 rfl rfl ?_
    refine own_iload (pc' := 45) C at_43 rfl rfl ?_
    refine own_iconst (pc' := 46) (v := (2 : Int32)) C at_45 own_ki_2 rfl ?_
    refine own_ishr (pc' := 47) (v := (p5 >>> (2 : Int32))) C at_46 (own_sishr_2 _) rfl ?_
    refine own_i2l (pc' := 48) C at_47 rfl rfl ?_
    refine own_lxor (pc' := 49) C at_48 rfl rfl ?_
    obtain ⟨v28_49, hv28_49⟩ : ∃ z : Int64, z = (p2 ^^^ ((p5 >>> (2 : Int32)).toInt64)) := ⟨_, rfl⟩
    refine own_lstore (pc' := 51) (y := v28_49) (Ls' := #[.val (.long p0), .second, .val (.long p1), .second, .val (.long p2), .second, .val (.long p3), .second, .val (.long p4), .second, .val (.int p5), .val (.int (1 : Int32)), .val (.long p0), .second, .val (.long p1), .second, .val (.long p2), .second, .val (.long p3), .second, .val (.long p4), .second, .val (.long v22_28), .second, .val (.long v24_35), .second, .val (.long p4), .second, .val (.long v28_49), .second, .unset, .unset, .unset, .unset, .unset, .unset, .unset, .unset, .unset, .unset, .unset, .unset, .unset, .unset, .unset, .unset, .unset]) C at_49 hv28_49.symm rfl rfl ?_
    refine own_lloadN (pc' := 52) C at_51 rfl rfl ?_
    refine own_lload (pc' := 54) C at_52 rfl rfl ?_
    refine own_lsub (pc' := 55) C at_54 rfl rfl ?_
    obtain ⟨v30_55, hv30_55⟩ : ∃ z : Int64, z = (p1 - p2) := ⟨_, rfl⟩
    refine own_lstore (pc' := 57) (y := v30_55) (Ls' := #[.val (.long p0), .second, .val (.long p1), .second, .val (.long p2), .second, .val (.long p3), .second, .val (.long p4), .second, .val (.int p5), .val (.int (1 : Int32)), .val (.long p0), .second, .val (.long p1), .second, .val (.long p2), .second, .val (.long p3), .second, .val (.long p4), .second, .val (.long v22_28), .second, .val (.long v24_35), .second, .val (.long p4), .second, .val (.long v28_49), .second, .val (.long v30_55), .second, .unset, .unset, .unset, .unset, .unset, .unset, .unset, .unset, .unset, .unset, .unset, .unset, .unset, .unset, .unset]) C at_55 hv30_55.symm rfl rfl ?_
    refine own_iload (pc' := 59) C at_57 rfl rfl ?_
    refine own_iconst (pc' := 60) (v := (3 : Int32)) C at_59 own_ki_3 rfl ?_
    refine own_icmp_ne (pt := 83) (pf := 63) C at_60 (by decide) (by decide) rfl (fun _ => ?_) (fun q => absurd q (by decide))
    refine own_lload (pc' := 85) C at_83 rfl rfl ?_
    refine own_lload (pc' := 87) C at_85 rfl rfl ?_
    refine own_ladd (pc' := 88) C at_87 rfl rfl ?_
    obtain ⟨v32_88, hv32_88⟩ : ∃ z : Int64, z = (p0 + v22_28) := ⟨_, rfl⟩
    refine own_lstore (pc' := 90) (y := v32_88) (Ls' := #[.val (.long p0), .second, .val (.long p1), .second, .val (.long p2), .second, .val (.long p3), .second, .val (.long p4), .second, .val (.int p5), .val (.int (1 : Int32)), .val (.long p0), .second, .val (.long p1), .second, .val (.long p2), .second, .val (.long p3), .second, .val (.long p4), .second, .val (.long v22_28), .second, .val (.long v24_35), .second, .val (.long p4), .second, .val (.long v28_49), .second, .val (.long v30_55), .second, .val (.long v32_88), .second, .unset, .unset, .unset, .unset, .unset, .unset, .unset, .unset, .unset, .unset, .unset, .unset, .unset]) C at_88 hv32_88.symm rfl rfl ?_
    refine own_lload (pc' := 92) C at_90 rfl rfl ?_
    refine own_lload (pc' := 94) C at_92 rfl rfl ?_
    refine own_ladd (pc' := 95) C at_94 rfl rfl ?_
    obtain ⟨v34_95, hv34_95⟩ : ∃ z : Int64, z = (p1 + v24_35) := ⟨_, rfl⟩
    refine own_lstore (pc' := 97) (y := v34_95) (Ls' := #[.val (.long p0), .second, .val (.long p1), .second, .val (.long p2), .second, .val (.long p3), .second, .val (.long p4), .second, .val (.int p5), .val (.int (1 : Int32)), .val (.long p0), .second, .val (.long p1), .second, .val (.long p2), .second, .val (.long p3), .second, .val (.long p4), .second, .val (.long v22_28), .second, .val (.long v24_35), .second, .val (.long p4), .second, .val (.long v28_49), .second, .val (.long v30_55), .second, .val (.long v32_88), .second, .val (.long v34_95), .second, .unset, .unset, .unset, .unset, .unset, .unset, .unset, .unset, .unset, .unset, .unset]) C at_95 hv34_95.symm rfl rfl ?_
    refine own_lload (pc' := 99) C at_97 rfl rfl ?_
    refine own_lload (pc' := 101) C at_99 rfl rfl ?_
    refine own_ladd (pc' := 102) C at_101 rfl rfl ?_
    obtain ⟨v36_102, hv36_102⟩ : ∃ z : Int64, z = (p2 + p4) := ⟨_, rfl⟩
    refine own_lstore (pc' := 104) (y := v36_102) (Ls' := #[.val (.long p0), .second, .val (.long p1), .second, .val (.long p2), .second, .val (.long p3), .second, .val (.long p4), .second, .val (.int p5), .val (.int (1 : Int32)), .val (.long p0), .second, .val (.long p1), .second, .val (.long p2), .second, .val (.long p3), .second, .val (.long p4), .second, .val (.long v22_28), .second, .val (.long v24_35), .second, .val (.long p4), .second, .val (.long v28_49), .second, .val (.long v30_55), .second, .val (.long v32_88), .second, .val (.long v34_95), .second, .val (.long v36_102), .second, .unset, .unset, .unset, .unset, .unset, .unset, .unset, .unset, .unset]) C at_102 hv36_102.symm rfl rfl ?_
    refine own_lload (pc' := 106) C at_104 rfl rfl ?_
    refine own_lload (pc' := 108) C at_106 rfl rfl ?_
    refine own_ladd (pc' := 109) C at_108 rfl rfl ?_
    obtain ⟨v38_109, hv38_109⟩ : ∃ z : Int64, z = (p3 + v28_49) := ⟨_, rfl⟩
    refine own_lstore (pc' := 111) (y := v38_109) (Ls' := #[.val (.long p0), .second, .val (.long p1), .second, .val (.long p2), .second, .val (.long p3), .second, .val (.long p4), .second, .val (.int p5), .val (.int (1 : Int32)), .val (.long p0), .second, .val (.long p1), .second, .val (.long p2), .second, .val (.long p3), .second, .val (.long p4), .second, .val (.long v22_28), .second, .val (.long v24_35), .second, .val (.long p4), .second, .val (.long v28_49), .second, .val (.long v30_55), .second, .val (.long v32_88), .second, .val (.long v34_95), .second, .val (.long v36_102), .second, .val (.long v38_109), .second, .unset, .unset, .unset, .unset, .unset, .unset, .unset]) C at_109 hv38_109.symm rfl rfl ?_
    refine own_lload (pc' := 113) C at_111 rfl rfl ?_
    refine own_lload (pc' := 115) C at_113 rfl rfl ?_
    refine own_ladd (pc' := 116) C at_115 rfl rfl ?_
    obtain ⟨v40_116, hv40_116⟩ : ∃ z : Int64, z = (p4 + v30_55) := ⟨_, rfl⟩
    refine own_lstore (pc' := 118) (y := v40_116) (Ls' := #[.val (.long p0), .second, .val (.long p1), .second, .val (.long p2), .second, .val (.long p3), .second, .val (.long p4), .second, .val (.int p5), .val (.int (1 : Int32)), .val (.long p0), .second, .val (.long p1), .second, .val (.long p2), .second, .val (.long p3), .second, .val (.long p4), .second, .val (.long v22_28), .second, .val (.long v24_35), .second, .val (.long p4), .second, .val (.long v28_49), .second, .val (.long v30_55), .second, .val (.long v32_88), .second, .val (.long v34_95), .second, .val (.long v36_102), .second, .val (.long v38_109), .second, .val (.long v40_116), .second, .unset, .unset, .unset, .unset, .unset]) C at_116 hv40_116.symm rfl rfl ?_
    refine own_iconst (pc' := 119) (v := (5 : Int32)) C at_118 own_ki_5 rfl ?_
    refine own_newJ (pc' := 121) (len := 5) (cap := 5) C at_119 (hw _ (List.mem_of_getElem? (i := 0) rfl)) (by decide) rfl (by decide) (by decide) (by decide) (by decide) rfl ?_
    intro h1 b1 g1 X1 A_b1
    have g_b1 : n0 ≤ b1 := g1 ▸ Z_
    replace Z_ := Nat.le_trans Z_ X1.1
    replace A_b1 : AJ Z h1 b1 [(0 : Int64), (0 : Int64), (0 : Int64), (0 : Int64), (0 : Int64)] := A_b1
    refine own_dup (pc' := 122) C at_121 rfl rfl ?_
    refine own_iconst (pc' := 123) (v := (0 : Int32)) C at_122 own_ki_0 rfl ?_
    refine own_lload (pc' := 125) C at_123 rfl rfl ?_
    refine own_lastore (pc' := 126) (i := 0) (ys := [p0, (0 : Int64), (0 : Int64), (0 : Int64), (0 : Int64)]) C at_125 A_b1 (by decide) rfl (Nat.le_of_ble_eq_true rfl) rfl g_b1 rfl ?_
    intro h2 W2 A2_
    replace A_b1 := A2_
    replace Z_ : n0 ≤ _ := Nat.le_trans Z_ (Nat.le_of_eq W2.size.symm)
    refine own_dup (pc' := 127) C at_126 rfl rfl ?_
    refine own_iconst (pc' := 128) (v := (1 : Int32)) C at_127 own_ki_1 rfl ?_
    refine own_lload (pc' := 130) C at_128 rfl rfl ?_
    refine own_lastore (pc' := 131) (i := 1) (ys := [p0, p1, (0 : Int64), (0 : Int64), (0 : Int64)]) C at_130 A_b1 (by decide) rfl (Nat.le_of_ble_eq_true rfl) rfl g_b1 rfl ?_
    intro h3 W3 A3_
    replace A_b1 := A3_
    replace Z_ : n0 ≤ _ := Nat.le_trans Z_ (Nat.le_of_eq W3.size.symm)
    refine own_dup (pc' := 132) C at_131 rfl rfl ?_
    refine own_iconst (pc' := 133) (v := (2 : Int32)) C at_132 own_ki_2 rfl ?_
    refine own_lload (pc' := 135) C at_133 rfl rfl ?_
    refine own_lastore (pc' := 136) (i := 2) (ys := [p0, p1, p2, (0 : Int64), (0 : Int64)]) C at_135 A_b1 (by decide) rfl (Nat.le_of_ble_eq_true rfl) rfl g_b1 rfl ?_
    intro h4 W4 A4_
    replace A_b1 := A4_
    replace Z_ : n0 ≤ _ := Nat.le_trans Z_ (Nat.le_of_eq W4.size.symm)
    refine own_dup (pc' := 137) C at_136 rfl rfl ?_
    refine own_iconst (pc' := 138) (v := (3 : Int32)) C at_137 own_ki_3 rfl ?_
    refine own_lload (pc' := 140) C at_138 rfl rfl ?_
    refine own_lastore (pc' := 141) (i := 3) (ys := [p0, p1, p2, p3, (0 : Int64)]) C at_140 A_b1 (by decide) rfl (Nat.le_of_ble_eq_true rfl) rfl g_b1 rfl ?_
    intro h5 W5 A5_
    replace A_b1 := A5_
    replace Z_ : n0 ≤ _ := Nat.le_trans Z_ (Nat.le_of_eq W5.size.symm)
    refine own_dup (pc' := 142) C at_141 rfl rfl ?_
    refine own_iconst (pc' := 143) (v := (4 : Int32)) C at_142 own_ki_4 rfl ?_
    refine own_lload (pc' := 145) C at_143 rfl rfl ?_
    refine own_lastore (pc' := 146) (i := 4) (ys := [p0, p1, p2, p3, p4]) C at_145 A_b1 (by decide) rfl (Nat.le_of_ble_eq_true rfl) rfl g_b1 rfl ?_
    intro h6 W6 A6_
    replace A_b1 := A6_
    replace Z_ : n0 ≤ _ := Nat.le_trans Z_ (Nat.le_of_eq W6.size.symm)
    refine own_astore (pc' := 148) (Ls' := #[.val (.long p0), .second, .val (.long p1), .second, .val (.long p2), .second, .val (.long p3), .second, .val (.long p4), .second, .val (.int p5), .val (.int (1 : Int32)), .val (.long p0), .second, .val (.long p1), .second, .val (.long p2), .second, .val (.long p3), .second, .val (.long p4), .second, .val (.long v22_28), .second, .val (.long v24_35), .second, .val (.long p4), .second, .val (.long v28_49), .second, .val (.long v30_55), .second, .val (.long v32_88), .second, .val (.long v34_95), .second, .val (.long v36_102), .second, .val (.long v38_109), .second, .val (.long v40_116), .second, .val (.ref b1), .unset, .unset, .unset, .unset]) C at_146 rfl rfl rfl ?_
    refine own_iconst (pc' := 149) (v := (5 : Int32)) C at_148 own_ki_5 rfl ?_
    refine own_newJ (pc' := 151) (len := 5) (cap := 5) C at_149 (hw _ (List.mem_of_getElem? (i := 0) rfl)) (by decide) rfl (by decide) (by decide) (by decide) (by decide) rfl ?_
    intro h7 b7 g7 X7 A_b7
    have ne_b1_b7 : b1 ≠ b7 := Nat.ne_of_lt (g7 ▸ A_b1.lt)
    replace A_b1 := A_b1.ext X7
    have g_b7 : n0 ≤ b7 := g7 ▸ Z_
    replace Z_ := Nat.le_trans Z_ X7.1
    replace A_b7 : AJ Z h7 b7 [(0 : Int64), (0 : Int64), (0 : Int64), (0 : Int64), (0 : Int64)] := A_b7
    refine own_dup (pc' := 152) C at_151 rfl rfl ?_
    refine own_iconst (pc' := 153) (v := (0 : Int32)) C at_152 own_ki_0 rfl ?_
    refine own_lload (pc' := 155) C at_153 rfl rfl ?_
    refine own_lastore (pc' := 156) (i := 0) (ys := [v22_28, (0 : Int64), (0 : Int64), (0 : Int64), (0 : Int64)]) C at_155 A_b7 (by decide) rfl (Nat.le_of_ble_eq_true rfl) rfl g_b7 rfl ?_
    intro h8 W8 A8_
    replace A_b1 := A_b1.other W8 ne_b1_b7
    replace A_b7 := A8_
    replace Z_ : n0 ≤ _ := Nat.le_trans Z_ (Nat.le_of_eq W8.size.symm)
    refine own_dup (pc' := 157) C at_156 rfl rfl ?_
    refine own_iconst (pc' := 158) (v := (1 : Int32)) C at_157 own_ki_1 rfl ?_
    refine own_lload (pc' := 160) C at_158 rfl rfl ?_
    refine own_lastore (pc' := 161) (i := 1) (ys := [v22_28, v24_35, (0 : Int64), (0 : Int64), (0 : Int64)]) C at_160 A_b7 (by decide) rfl (Nat.le_of_ble_eq_true rfl) rfl g_b7 rfl ?_
    intro h9 W9 A9_
    replace A_b1 := A_b1.other W9 ne_b1_b7
    replace A_b7 := A9_
    replace Z_ : n0 ≤ _ := Nat.le_trans Z_ (Nat.le_of_eq W9.size.symm)
    refine own_dup (pc' := 162) C at_161 rfl rfl ?_
    refine own_iconst (pc' := 163) (v := (2 : Int32)) C at_162 own_ki_2 rfl ?_
    refine own_lload (pc' := 165) C at_163 rfl rfl ?_
    refine own_lastore (pc' := 166) (i := 2) (ys := [v22_28, v24_35, p4, (0 : Int64), (0 : Int64)]) C at_165 A_b7 (by decide) rfl (Nat.le_of_ble_eq_true rfl) rfl g_b7 rfl ?_
    intro h10 W10 A10_
    replace A_b1 := A_b1.other W10 ne_b1_b7
    replace A_b7 := A10_
    replace Z_ : n0 ≤ _ := Nat.le_trans Z_ (Nat.le_of_eq W10.size.symm)
    refine own_dup (pc' := 167) C at_166 rfl rfl ?_
    refine own_iconst (pc' := 168) (v := (3 : Int32)) C at_167 own_ki_3 rfl ?_
    refine own_lload (pc' := 170) C at_168 rfl rfl ?_
    refine own_lastore (pc' := 171) (i := 3) (ys := [v22_28, v24_35, p4, v28_49, (0 : Int64)]) C at_170 A_b7 (by decide) rfl (Nat.le_of_ble_eq_true rfl) rfl g_b7 rfl ?_
    intro h11 W11 A11_
    replace A_b1 := A_b1.other W11 ne_b1_b7
    replace A_b7 := A11_
    replace Z_ : n0 ≤ _ := Nat.le_trans Z_ (Nat.le_of_eq W11.size.symm)
    refine own_dup (pc' := 172) C at_171 rfl rfl ?_
    refine own_iconst (pc' := 173) (v := (4 : Int32)) C at_172 own_ki_4 rfl ?_
    refine own_lload (pc' := 175) C at_173 rfl rfl ?_
    refine own_lastore (pc' := 176) (i := 4) (ys := [v22_28, v24_35, p4, v28_49, v30_55]) C at_175 A_b7 (by decide) rfl (Nat.le_of_ble_eq_true rfl) rfl g_b7 rfl ?_
    intro h12 W12 A12_
    replace A_b1 := A_b1.other W12 ne_b1_b7
    replace A_b7 := A12_
    replace Z_ : n0 ≤ _ := Nat.le_trans Z_ (Nat.le_of_eq W12.size.symm)
    refine own_astore (pc' := 178) (Ls' := #[.val (.long p0), .second, .val (.long p1), .second, .val (.long p2), .second, .val (.long p3), .second, .val (.long p4), .second, .val (.int p5), .val (.int (1 : Int32)), .val (.long p0), .second, .val (.long p1), .second, .val (.long p2), .second, .val (.long p3), .second, .val (.long p4), .second, .val (.long v22_28), .second, .val (.long v24_35), .second, .val (.long p4), .second, .val (.long v28_49), .second, .val (.long v30_55), .second, .val (.long v32_88), .second, .val (.long v34_95), .second, .val (.long v36_102), .second, .val (.long v38_109), .second, .val (.long v40_116), .second, .val (.ref b1), .val (.ref b7), .unset, .unset, .unset]) C at_176 rfl rfl rfl ?_
    refine own_iconst (pc' := 179) (v := (5 : Int32)) C at_178 own_ki_5 rfl ?_
    refine own_newJ (pc' := 181) (len := 5) (cap := 5) C at_179 (hw _ (List.mem_of_getElem? (i := 0) rfl)) (by decide) rfl (by decide) (by decide) (by decide) (by decide) rfl ?_
    intro h13 b13 g13 X13 A_b13
    have ne_b1_b13 : b1 ≠ b13 := Nat.ne_of_lt (g13 ▸ A_b1.lt)
    have ne_b7_b13 : b7 ≠ b13 := Nat.ne_of_lt (g13 ▸ A_b7.lt)
    replace A_b1 := A_b1.ext X13
    replace A_b7 := A_b7.ext X13
    have g_b13 : n0 ≤ b13 := g13 ▸ Z_
    replace Z_ := Nat.le_trans Z_ X13.1
    replace A_b13 : AJ Z h13 b13 [(0 : Int64), (0 : Int64), (0 : Int64), (0 : Int64), (0 : Int64)] := A_b13
    refine own_dup (pc' := 182) C at_181 rfl rfl ?_
    refine own_iconst (pc' := 183) (v := (0 : Int32)) C at_182 own_ki_0 rfl ?_
    refine own_lloadN (pc' := 184) C at_183 rfl rfl ?_
    refine own_lastore (pc' := 185) (i := 0) (ys := [p1, (0 : Int64), (0 : Int64), (0 : Int64), (0 : Int64)]) C at_184 A_b13 (by decide) rfl (Nat.le_of_ble_eq_true rfl) rfl g_b13 rfl ?_
    intro h14 W14 A14_
    replace A_b1 := A_b1.other W14 ne_b1_b13
    replace A_b7 := A_b7.other W14 ne_b7_b13
    replace A_b13 := A14_
    replace Z_ : n0 ≤ _ := Nat.le_trans Z_ (Nat.le_of_eq W14.size.symm)
    refine own_dup (pc' := 186) C at_185 rfl rfl ?_
    refine own_iconst (pc' := 187) (v := (1 : Int32)) C at_186 own_ki_1 rfl ?_
    refine own_lload (pc' := 189) C at_187 rfl rfl ?_
    refine own_lastore (pc' := 190) (i := 1) (ys := [p1, p2, (0 : Int64), (0 : Int64), (0 : Int64)]) C at_189 A_b13 (by decide) rfl (Nat.le_of_ble_eq_true rfl) rfl g_b13 rfl ?_
    intro h15 W15 A15_
    replace A_b1 := A_b1.other W15 ne_b1_b13
    replace A_b7 := A_b7.other W15 ne_b7_b13
    replace A_b13 := A15_
    replace Z_ : n0 ≤ _ := Nat.le_trans Z_ (Nat.le_of_eq W15.size.symm)
    refine own_dup (pc' := 191) C at_190 rfl rfl ?_
    refine own_iconst (pc' := 192) (v := (2 : Int32)) C at_191 own_ki_2 rfl ?_
    refine own_lload (pc' := 194) C at_192 rfl rfl ?_
    refine own_lastore (pc' := 195) (i := 2) (ys := [p1, p2, p3, (0 : Int64), (0 : Int64)]) C at_194 A_b13 (by decide) rfl (Nat.le_of_ble_eq_true rfl) rfl g_b13 rfl ?_
    intro h16 W16 A16_
    replace A_b1 := A_b1.other W16 ne_b1_b13
    replace A_b7 := A_b7.other W16 ne_b7_b13
    replace A_b13 := A16_
    replace Z_ : n0 ≤ _ := Nat.le_trans Z_ (Nat.le_of_eq W16.size.symm)
    refine own_dup (pc' := 196) C at_195 rfl rfl ?_
    refine own_iconst (pc' := 197) (v := (3 : Int32)) C at_196 own_ki_3 rfl ?_
    refine own_lload (pc' := 199) C at_197 rfl rfl ?_
    refine own_lastore (pc' := 200) (i := 3) (ys := [p1, p2, p3, p4, (0 : Int64)]) C at_199 A_b13 (by decide) rfl (Nat.le_of_ble_eq_true rfl) rfl g_b13 rfl ?_
    intro h17 W17 A17_
    replace A_b1 := A_b1.other W17 ne_b1_b13
    replace A_b7 := A_b7.other W17 ne_b7_b13
    replace A_b13 := A17_
    replace Z_ : n0 ≤ _ := Nat.le_trans Z_ (Nat.le_of_eq W17.size.symm)
    refine own_dup (pc' := 201) C at_200 rfl rfl ?_
    refine own_iconst (pc' := 202) (v := (4 : Int32)) C at_201 own_ki_4 rfl ?_
    refine own_lloadN (pc' := 203) C at_202 rfl rfl ?_
    refine own_lastore (pc' := 204) (i := 4) (ys := [p1, p2, p3, p4, p0]) C at_203 A_b13 (by decide) rfl (Nat.le_of_ble_eq_true rfl) rfl g_b13 rfl ?_
    intro h18 W18 A18_
    replace A_b1 := A_b1.other W18 ne_b1_b13
    replace A_b7 := A_b7.other W18 ne_b7_b13
    replace A_b13 := A18_
    replace Z_ : n0 ≤ _ := Nat.le_trans Z_ (Nat.le_of_eq W18.size.symm)
    refine own_astore (pc' := 206) (Ls' := #[.val (.long p0), .second, .val (.long p1), .second, .val (.long p2), .second, .val (.long p3), .second, .val (.long p4), .second, .val (.int p5), .val (.int (1 : Int32)), .val (.long p0), .second, .val (.long p1), .second, .val (.long p2), .second, .val (.long p3), .second, .val (.long p4), .second, .val (.long v22_28), .second, .val (.long v24_35), .second, .val (.long p4), .second, .val (.long v28_49), .second, .val (.long v30_55), .second, .val (.long v32_88), .second, .val (.long v34_95), .second, .val (.long v36_102), .second, .val (.long v38_109), .second, .val (.long v40_116), .second, .val (.ref b1), .val (.ref b7), .val (.ref b13), .unset, .unset]) C at_204 rfl rfl rfl ?_
    refine own_aload (pc' := 208) C at_206 rfl rfl rfl ?_
    refine own_astore (pc' := 210) (Ls' := #[.val (.long p0), .second, .val (.long p1), .second, .val (.long p2), .second, .val (.long p3), .second, .val (.long p4), .second, .val (.int p5), .val (.int (1 : Int32)), .val (.long p0), .second, .val (.long p1), .second, .val (.long p2), .second, .val (.long p3), .second, .val (.long p4), .second, .val (.long v22_28), .second, .val (.long v24_35), .second, .val (.long p4), .second, .val (.long v28_49), .second, .val (.long v30_55), .second, .val (.long v32_88), .second, .val (.long v34_95), .second, .val (.long v36_102), .second, .val (.long v38_109), .second, .val (.long v40_116), .second, .val (.ref b1), .val (.ref b7), .val (.ref b13), .val (.ref b13), .unset]) C at_208 rfl rfl rfl ?_
    refine own_iload (pc' := 212) C at_210 rfl rfl ?_
    refine own_iconst (pc' := 213) (v := (1 : Int32)) C at_212 own_ki_1 rfl ?_
    refine own_icmp_ne (pt := 223) (pf := 216) C at_213 (by decide) (by decide) rfl (fun q => absurd (by decide) q) (fun _ => ?_)
    refine own_aload (pc' := 218) C at_216 rfl rfl rfl ?_
    refine own_astore (pc' := 220) (Ls' := #[.val (.long p0), .second, .val (.long p1), .second, .val (.long p2), .second, .val (.long p3), .second, .val (.long p4), .second, .val (.int p5), .val (.int (1 : Int32)), .val (.long p0), .second, .val (.long p1), .second, .val (.long p2), .second, .val (.long p3), .second, .val (.long p4), .second, .val (.long v22_28), .second, .val (.long v24_35), .second, .val (.long p4), .second, .val (.long v28_49), .second, .val (.long v30_55), .second, .val (.long v32_88), .second, .val (.long v34_95), .second, .val (.long v36_102), .second, .val (.long v38_109), .second, .val (.long v40_116), .second, .val (.ref b1), .val (.ref b7), .val (.ref b13), .val (.ref b1), .unset]) C at_218 rfl rfl rfl ?_
    refine own_goto (pc' := 250) C at_220 (by decide) (by decide) ?_
    refine own_aload (pc' := 252) C at_250 rfl rfl rfl ?_
    refine own_aload (pc' := 254) C at_252 rfl rfl rfl ?_
    refine own_aload (pc' := 256) C at_254 rfl rfl rfl ?_
    refine own_callS (pc' := 259) (wL := 0) (argsL := [(.ref b1), (.ref b1), (.ref b7)]) (rest := []) C (own_add1 l Z a0 hw b1 b7 p0 p1 p2 p3 p4 v22_28 v24_35 p4 v28_49 v30_55 h18 n0 Z_ A_b1 A_b7 g_b1 ne_b1_b7) at_256 (hw _ (List.mem_of_getElem? (i := 1) rfl)) (hw _ (List.mem_of_getElem? (i := 2) rfl)) (hw _ (List.mem_of_getElem? (i := 3) rfl)) (hw _ (List.mem_of_getElem? (i := 4) rfl)) (by decide) (by decide) (by decide) rfl (lenOf pd1 rfl) rfl rfl (Nat.le_of_eq rfl) (by decide) (by decide) rfl ?_
    rintro _ h19 ⟨rfl, K19, A19_⟩
    replace A_b7 := A_b7.keep K19 (ninS (Ne.symm ne_b1_b7) nin0)
    replace A_b13 := A_b13.keep K19 (ninS (Ne.symm ne_b1_b13) nin0)
    replace Z_ := Nat.le_trans Z_ K19.1
    replace A_b1 := A19_
    show Wp p l e _ s m _ below meth c n0 _ h19 (((0 + 1) + 1) + 1) (((0 + 5) + 5) + 5) (mkF m 259 #[.val (.long p0), .second, .val (.long p1), .second, .val (.long p2), .second, .val (.long p3), .second, .val (.long p4), .second, .val (.int p5), .val (.int (1 : Int32)), .val (.long p0), .second, .val (.long p1), .second, .val (.long p2), .second, .val (.long p3), .second, .val (.long p4), .second, .val (.long v22_28), .second, .val (.long v24_35), .second, .val (.long p4), .second, .val (.long v28_49), .second, .val (.long v30_55), .second, .val (.long v32_88), .second, .val (.long v34_95), .second, .val (.long v36_102), .second, .val (.long v38_109), .second, .val (.long v40_116), .second, .val (.ref b1), .val (.ref b7), .val (.ref b13), .val (.ref b1), .unset] [])
    refine own_aload (pc' := 261) C at_259 rfl rfl rfl ?_
    refine own_iconst (pc' := 262) (v := (0 : Int32)) C at_261 own_ki_0 rfl ?_
    refine own_laload (pc' := 263) (v := (p0 + v22_28)) (i := 0) C at_262 A_b1 (by decide) rfl rfl rfl ?_
    refine own_lload (pc' := 265) C at_263 rfl rfl ?_
    refine own_lcmp_ne (pt := 313) (pf := 269) C at_265 rfl at_266 (by decide) (by decide) rfl (fun q => absurd hv32_88.symm q) (fun _ => ?_)
    refine own_aload (pc' := 271) C at_269 rfl rfl rfl ?_
    refine own_iconst (pc' := 272) (v := (1 : Int32)) C at_271 own_ki_1 rfl ?_
    refine own_laload (pc' := 273) (v := (p1 + v24_35)) (i := 1) C at_272 A_b1 (by decide) rfl rfl rfl ?_
    refine own_lload (pc' := 275) C at_273 rfl rfl ?_
    refine own_lcmp_ne (pt := 313) (pf := 279) C at_275 rfl at_276 (by decide) (by decide) rfl (fun q => absurd hv34_95.symm q) (fun _ => ?_)
    refine own_aload (pc' := 281) C at_279 rfl rfl rfl ?_
    refine own_iconst (pc' := 282) (v := (2 : Int32)) C at_281 own_ki_2 rfl ?_
    refine own_laload (pc' := 283) (v := (p2 + p4)) (i := 2) C at_282 A_b1 (by decide) rfl rfl rfl ?_
    refine own_lload (pc' := 285) C at_283 rfl rfl ?_
    refine own_lcmp_ne (pt := 313) (pf := 289) C at_285 rfl at_286 (by decide) (by decide) rfl (fun q => absurd hv36_102.symm q) (fun _ => ?_)
    refine own_aload (pc' := 291) C at_289 rfl rfl rfl ?_
    refine own_iconst (pc' := 292) (v := (3 : Int32)) C at_291 own_ki_3 rfl ?_
    refine own_laload (pc' := 293) (v := (p3 + v28_49)) (i := 3) C at_292 A_b1 (by decide) rfl rfl rfl ?_
    refine own_lload (pc' := 295) C at_293 rfl rfl ?_
    refine own_lcmp_ne (pt := 313) (pf := 299) C at_295 rfl at_296 (by decide) (by decide) rfl (fun q => absurd hv38_109.symm q) (fun _ => ?_)
    refine own_aload (pc' := 301) C at_299 rfl rfl rfl ?_
    refine own_iconst (pc' := 302) (v := (4 : Int32)) C at_301 own_ki_4 rfl ?_
    refine own_laload (pc' := 303) (v := (p4 + v30_55)) (i := 4) C at_302 A_b1 (by decide) rfl rfl rfl ?_
    refine own_lload (pc' := 305) C at_303 rfl rfl ?_
    refine own_lcmp_ne (pt := 313) (pf := 309) C at_305 rfl at_306 (by decide) (by decide) rfl (fun q => absurd hv40_116.symm q) (fun _ => ?_)
    refine own_iconst (pc' := 310) (v := (1 : Int32)) C at_309 own_ki_1 rfl ?_
    refine own_goto (pc' := 314) C at_310 (by decide) (by decide) ?_
    refine own_istore (pc' := 316) (y := (1 : Int32)) (Ls' := #[.val (.long p0), .second, .val (.long p1), .second, .val (.long p2), .second, .val (.long p3), .second, .val (.long p4), .second, .val (.int p5), .val (.int (1 : Int32)), .val (.long p0), .second, .val (.long p1), .second, .val (.long p2), .second, .val (.long p3), .second, .val (.long p4), .second, .val (.long v22_28), .second, .val (.long v24_35), .second, .val (.long p4), .second, .val (.long v28_49), .second, .val (.long v30_55), .second, .val (.long v32_88), .second, .val (.long v34_95), .second, .val (.long v36_102), .second, .val (.long v38_109), .second, .val (.long v40_116), .second, .val (.ref b1), .val (.ref b7), .val (.ref b13), .val (.ref b1), .val (.int (1 : Int32))]) C at_314 rfl rfl rfl ?_
    refine own_iload (pc' := 318) C at_316 rfl rfl ?_
    refine own_if_eq (pt := 327) (pf := 321) C at_318 (by decide) (by decide) rfl (fun q => absurd q (by decide)) (fun _ => ?_)
    refine own_iload (pc' := 323) C at_321 rfl rfl ?_
    refine own_iconst (pc' := 324) (v := (2 : Int32)) C at_323 own_ki_2 rfl ?_
    refine own_icmp_ne (pt := 389) (pf := 327) C at_324 (by decide) (by decide) rfl (fun _ => ?_) (fun q => absurd q (by decide))
    refine own_iload (pc' := 391) C at_389 rfl rfl ?_
    refine own_if_eq (pt := 400) (pf := 394) C at_391 (by decide) (by decide) rfl (fun q => absurd q (by decide)) (fun _ => ?_)
    refine own_iload (pc' := 396) C at_394 rfl rfl ?_
    refine own_iconst (pc' := 397) (v := (1 : Int32)) C at_396 own_ki_1 rfl ?_
    refine own_icmp_ne (pt := 462) (pf := 400) C at_397 (by decide) (by decide) rfl (fun q => absurd (by decide) q) (fun _ => ?_)
    refine own_iload (pc' := 402) C at_400 rfl rfl ?_
    refine own_if_eq (pt := 459) (pf := 405) C at_402 (by decide) (by decide) rfl (fun q => absurd q (by decide)) (fun _ => ?_)
    refine own_aload (pc' := 407) C at_405 rfl rfl rfl ?_
    refine own_iconst (pc' := 408) (v := (0 : Int32)) C at_407 own_ki_0 rfl ?_
    refine own_laload (pc' := 409) (v := v22_28) (i := 0) C at_408 A_b7 (by decide) rfl rfl rfl ?_
    refine own_lload (pc' := 411) C at_409 rfl rfl ?_
    refine own_lcmp_ne (pt := 459) (pf := 415) C at_411 rfl at_412 (by decide) (by decide) rfl (fun q => absurd rfl q) (fun _ => ?_)
    refine own_aload (pc' := 417) C at_415 rfl rfl rfl ?_
    refine own_iconst (pc' := 418) (v := (1 : Int32)) C at_417 own_ki_1 rfl ?_
    refine own_laload (pc' := 419) (v := v24_35) (i := 1) C at_418 A_b7 (by decide) rfl rfl rfl ?_
    refine own_lload (pc' := 421) C at_419 rfl rfl ?_
    refine own_lcmp_ne (pt := 459) (pf := 425) C at_421 rfl at_422 (by decide) (by decide) rfl (fun q => absurd rfl q) (fun _ => ?_)
    refine own_aload (pc' := 427) C at_425 rfl rfl rfl ?_
    refine own_iconst (pc' := 428) (v := (2 : Int32)) C at_427 own_ki_2 rfl ?_
    refine own_laload (pc' := 429) (v := p4) (i := 2) C at_428 A_b7 (by decide) rfl rfl rfl ?_
    refine own_lload (pc' := 431) C at_429 rfl rfl ?_
    refine own_lcmp_ne (pt := 459) (pf := 435) C at_431 rfl at_432 (by decide) (by decide) rfl (fun q => absurd rfl q) (fun _ => ?_)
    refine own_aload (pc' := 437) C at_435 rfl rfl rfl ?_
    refine own_iconst (pc' := 438) (v := (3 : Int32)) C at_437 own_ki_3 rfl ?_
    refine own_laload (pc' := 439) (v := v28_49) (i := 3) C at_438 A_b7 (by decide) rfl rfl rfl ?_
    refine own_lload (pc' := 441) C at_439 rfl rfl ?_
    refine own_lcmp_ne (pt := 459) (pf := 445) C at_441 rfl at_442 (by decide) (by decide) rfl (fun q => absurd rfl q) (fun _ => ?_)
    refine own_aload (pc' := 447) C at_445 rfl rfl rfl ?_
    refine own_iconst (pc' := 448) (v := (4 : Int32)) C at_447 own_ki_4 rfl ?_
    refine own_laload (pc' := 449) (v := v30_55) (i := 4) C at_448 A_b7 (by decide) rfl rfl rfl ?_
    refine own_lload (pc' := 451) C at_449 rfl rfl ?_
    refine own_lcmp_ne (pt := 459) (pf := 455) C at_451 rfl at_452 (by decide) (by decide) rfl (fun q => absurd rfl q) (fun _ => ?_)
    refine own_iconst (pc' := 456) (v := (1 : Int32)) C at_455 own_ki_1 rfl ?_
    refine own_goto (pc' := 460) C at_456 (by decide) (by decide) ?_
    refine own_istore (pc' := 462) (y := (1 : Int32)) (Ls' := #[.val (.long p0), .second, .val (.long p1), .second, .val (.long p2), .second, .val (.long p3), .second, .val (.long p4), .second, .val (.int p5), .val (.int (1 : Int32)), .val (.long p0), .second, .val (.long p1), .second, .val (.long p2), .second, .val (.long p3), .second, .val (.long p4), .second, .val (.long v22_28), .second, .val (.long v24_35), .second, .val (.long p4), .second, .val (.long v28_49), .second, .val (.long v30_55), .second, .val (.long v32_88), .second, .val (.long v34_95), .second, .val (.long v36_102), .second, .val (.long v38_109), .second, .val (.long v40_116), .second, .val (.ref b1), .val (.ref b7), .val (.ref b13), .val (.ref b1), .val (.int (1 : Int32))]) C at_460 rfl rfl rfl ?_
    refine own_iload (pc' := 464) C at_462 rfl rfl ?_
    refine own_zret C at_464 (by decide) (by decide) (Or.inr rfl) ?_
    exact rfl
  · subst q
    refine own_lloadN (pc' := 7) C at_6 rfl rfl ?_
    refine own_lstore (pc' := 9) (y := p0) (Ls' := #[.val (.long p0), .second, .val (.long p1), .second, .val (.long p2), .second, .val (.long p3), .second, .val (.long p4), .second, .val (.int p5), .val (.int (2 : Int32)), .val (.long p0), .second, .unset, .unset, .unset, .unset, .unset, .unset, .unset, .unset, .unset, .unset, .unset, .unset, .unset, .unset, .unset, .unset, .unset, .unset, .unset, .unset, .unset, .unset, .unset, .unset, .unset, .unset, .unset, .unset, .unset, .unset, .unset, .unset, .unset]) C at_7 rfl rfl rfl ?_
    refine own_lloadN (pc' := 10) C at_9 rfl rfl ?_
    refine own_lstore (pc' := 12) (y := p1) (Ls' := #[.val (.long p0), .second, .val (.long p1), .second, .val (.long p2), .second, .val (.long p3), .second, .val (.long p4), .second, .val (.int p5), .val (.int (2 : Int32)), .val (.long p0), .second, .val (.long p1), .second, .unset, .unset, .unset, .unset, .unset, .unset, .unset, .unset, .unset, .unset, .unset, .unset, .unset, .unset, .unset, .unset, .unset, .unset, .unset, .unset, .unset, .unset, .unset, .unset, .unset, .unset, .unset, .unset, .unset, .unset, .unset]) C at_10 rfl rfl rfl ?_
    refine own_lload (pc' := 14) C at_12 rfl rfl ?_
    refine own_lstore (pc' := 16) (y := p2) (Ls' := #[.val (.long p0), .second, .val (.long p1), .second, .val (.long p2), .second, .val (.long p3), .second, .val (.long p4), .second, .val (.int p5), .val (.int (2 : Int32)), .val (.long p0), .second, .val (.long p1), .second, .val (.long p2), .second, .unset, .unset, .unset, .unset, .unset, .unset, .unset, .unset, .unset, .unset, .unset, .unset, .unset, .unset, .unset, .unset, .unset, .unset, .unset, .unset, .unset, .unset, .unset, .unset, .unset, .unset, .unset, .unset, .unset]) C at_14 rfl rfl rfl ?_
    refine own_lload (pc' := 18) C at_16 rfl rfl ?_
    refine own_lstore (pc' := 20) (y := p3) (Ls' := #[.val (.long p0), .second, .val (.long p1), .second, .val (.long p2), .second, .val (.long p3), .second, .val (.long p4), .second, .val (.int p5), .val (.int (2 : Int32)), .val (.long p0), .second, .val (.long p1), .second, .val (.long p2), .second, .val (.long p3), .second, .unset, .unset, .unset, .unset, .unset, .unset, .unset, .unset, .unset, .unset, .unset, .unset, .unset, .unset, .unset, .unset, .unset, .unset, .unset, .unset, .unset, .unset, .unset, .unset, .unset, .unset, .unset]) C at_18 rfl rfl rfl ?_
    refine own_lload (pc' := 22) C at_20 rfl rfl ?_
    refine own_lstore (pc' := 24) (y := p4) (Ls' := #[.val (.long p0), .second, .val (.long p1), .second, .val (.long p2), .second, .val (.long p3), .second, .val (.long p4), .second, .val (.int p5), .val (.int (2 : Int32)), .val (.long p0), .second, .val (.long p1), .second, .val (.long p2), .second, .val (.long p3), .second, .val (.long p4), .second, .unset, .unset, .unset, .unset, .unset, .unset, .unset, .unset, .unset, .unset, .unset, .unset, .unset, .unset, .unset, .unset, .unset, .unset, .unset, .unset, .unset, .unset, .unset, .unset, .unset]) C at_22 rfl rfl rfl ?_
    refine own_lload (pc' := 26) C at_24 rfl rfl ?_
    refine own_lloadN (pc' := 27) C at_26 rfl rfl ?_
    refine own_lxor (pc' := 28) C at_27 rfl rfl ?_
    obtain ⟨v22_28, hv22_28⟩ : ∃ z : Int64, z = (p3 ^^^ p1) := ⟨_, rfl⟩
    refine own_lstore (pc' := 30) (y := v22_28) (Ls' := #[.val (.long p0), .second, .val (.long p1), .second, .val (.long p2), .second, .val (.long p3), .second, .val (.long p4), .second, .val (.int p5), .val (.int (2 : Int32)), .val (.long p0), .second, .val (.long p1), .second, .val (.long p2), .second, .val (.long p3), .second, .val (.long p4), .second, .val (.long v22_28), .second, .unset, .unset, .unset, .unset, .unset, .unset, .unset, .unset, .unset, .unset, .unset, .unset, .unset, .unset, .unset, .unset, .unset, .unset, .unset, .unset, .unset, .unset, .unset]) C at_28 hv22_28.symm rfl rfl ?_
    refine own_lloadN (pc' := 31) C at_30 rfl rfl ?_
    refine own_iload (pc' := 33) C at_31 rfl rfl ?_
    refine own_i2l (pc' := 34) C at_33 rfl rfl ?_
    refine own_ladd (pc' := 35) C at_34 rfl rfl ?_
    obtain ⟨v24_35, hv24_35⟩ : ∃ z : Int64, z = (p0 + (p5.toInt64)) := ⟨_, rfl⟩
    refine own_lstore (pc' := 37) (y := v24_35) (Ls' := #[.val (.long p0), .second, .val (.long p1), .second, .val (.long p2), .second, .val (.long p3), .second, .val (.long p4), .second, .val (.int p5), .val (.int (2 : Int32)), .val (.long p0), .second, .val (.long p1), .second, .val (.long p2), .second, .val (.long p3), .second, .val (.long p4), .second, .val (.long v22_28), .second, .val (.long v24_35), .second, .unset, .unset, .unset, .unset, .unset, .unset, .unset, .unset, .unset, .unset, .unset, .unset, .unset, .unset, .unset, .unset, .unset, .unset, .unset, .unset, .unset]) C at_35 hv24_35.symm rfl rfl ?_
    refine own_lload (pc' := 39) C at_37 rfl rfl ?_
    refine own_lstore (pc' := 41) (y := p4) (Ls' := #[.val (.long p0), .second, .val (.long p1), .second, .val (.long p2), .second, .val (.long p3), .second, .val (.long p4), .second, .val (.int p5), .val (.int (2 : Int32)), .val (.long p0), .second, .val (.long p1), .second, .val (.long p2), .second, .val (.long p3), .second, .val (.long p4), .second, .val (.long v22_28), .second, .val (.long v24_35), .second, .val (.long p4), .second, .unset, .unset, .unset, .unset, .unset, .unset, .unset, .unset, .unset, .unset, .unset, .unset, .unset, .unset, .unset, .unset, .unset, .unset, .unset]) C at_39 rfl rfl rfl ?_
    refine own_lload (pc' := 43) C at_41 rfl rfl ?_
    refine own_iload (pc' := 45) C at_43 rfl rfl ?_
    refine own_iconst (pc' := 46) (v := (2 : Int32)) C at_45 own_ki_2 rfl ?_
    refine own_ishr (pc' := 47) (v := (p5 >>> (2 : Int32))) C at_46 (own_sishr_2 _) rfl ?_
    refine own_i2l (pc' := 48) C at_47 rfl rfl ?_
    refine own_lxor (pc' := 49) C at_48 rfl rfl ?_
    obtain ⟨v28_49, hv28_49⟩ : ∃ z : Int64, z = (p2 ^^^ ((p5 >>> (2 : Int32)).toInt64)) := ⟨_, rfl⟩
    refine own_lstore (pc' := 51) (y := v28_49) (Ls' := #[.val (.long p0), .second, .val (.long p1), .second, .val (.long p2), .second, .val (.long p3), .second, .val (.long p4), .second, .val (.int p5), .val (.int (2 : Int32)), .val (.long p0), .second, .val (.long p1), .second, .val (.long p2), .second, .val (.long p3), .second, .val (.long p4), .second, .val (.long v22_28), .second, .val (.long v24_35), .second, .val (.long p4), .second, .val (.long v28_49), .second, .unset, .unset, .unset, .unset, .unset, .unset, .unset, .unset, .unset, .unset, .unset, .unset, .unset, .unset, .unset, .unset, .unset]) C at_49 hv28_49.symm rfl rfl ?_
    refine own_lloadN (pc' := 52) C at_51 rfl rfl ?_
    refine own_lload (pc' := 54) C at_52 rfl rfl ?_
    refine own_lsub (pc' := 55) C at_54 rfl rfl ?_
    obtain ⟨v30_55, hv30_55⟩ : ∃ z : Int64, z = (p1 - p2) := ⟨_, rfl⟩
    refine own_lstore (pc' := 57) (y := v30_55) (Ls' := #[.val (.long p0), .second, .val (.long p1), .second, .val (.long p2), .second, .val (.long p3), .second, .val (.long p4), .second, .val (.int p5), .val (.int (2 : Int32)), .val (.long p0), .second, .val (.long p1), .second, .val (.long p2), .second, .val (.long p3), .second, .val (.long p4), .second, .val (.long v22_28), .second, .val (.long v24_35), .second, .val (.long p4), .second, .val (.long v28_49), .second, .val (.long v30_55), .second, .unset, .unset, .unset, .unset, .unset, .unset, .unset, .unset, .unset, .unset, .unset, .unset, .unset, .unset, .unset]) C at_55 hv30_55.symm rfl rfl ?_
    refine own_iload (pc' := 59) C at_57 rfl rfl ?_
    refine own_iconst (pc' := 60) (v := (3 : Int32)) C at_59 own_ki_3 rfl ?_
    refine own_icmp_ne (pt := 83) (pf := 63) C at_60 (by decide) (by decide) rfl (fun _ => ?_) (fun q => absurd q (by decide))
    refine own_lload (pc' := 85) C at_83 rfl rfl ?_
    refine own_lload (pc' := 87) C at_85 rfl rfl ?_
    refine own_ladd (pc' := 88) C at_87 rfl rfl ?_
    obtain ⟨v32_88, hv32_88⟩ : ∃ z : Int64, z = (p0 + v22_28) := ⟨_, rfl⟩
    refine own_lstore (pc' := 90) (y := v32_88) (Ls' := #[.val (.long p0), .second, .val (.long p1), .second, .val (.long p2), .second, .val (.long p3), .second, .val (.long p4), .second, .val (.int p5), .val (.int (2 : Int32)), .val (.long p0), .second, .val (.long p1), .second, .val (.long p2), .second, .val (.long p3), .second, .val (.long p4), .second, .val (.long v22_28), .second, .val (.long v24_35), .second, .val (.long p4), .second, .val (.long v28_49), .second, .val (.long v30_55), .second, .val (.long v32_88), .second, .unset, .unset, .unset, .unset, .unset, .unset, .unset, .unset, .unset, .unset, .unset, .unset, .unset]) C at_88 hv32_88.symm rfl rfl ?_
    refine own_lload (pc' := 92) C at_90 rfl rfl ?_
    refine own_lload (pc' := 94) C at_92 rfl rfl ?_
    refine own_ladd (pc' := 95) C at_94 rfl rfl ?_
    obtain ⟨v34_95, hv34_95⟩ : ∃ z : Int64, z = (p1 + v24_35) := ⟨_, rfl⟩
    refine own_lstore (pc' := 97) (y := v34_95) (Ls' := #[.val (.long p0), .second, .val (.long p1), .second, .val (.long p2), .second, .val (.long p3), .second, .val (.long p4), .second, .val (.int p5), .val (.int (2 : Int32)), .val (.long p0), .second, .val (.long p1), .second, .val (.long p2), .second, .val (.long p3), .second, .val (.long p4), .second, .val (.long v22_28), .second, .val (.long v24_35), .second, .val (.long p4), .second, .val (.long v28_49), .second, .val (.long v30_55), .second, .val (.long v32_88), .second, .val (.long v34_95), .second, .unset, .unset, .unset, .unset, .unset, .unset, .unset, .unset, .unset, .unset, .unset]) C at_95 hv34_95.symm rfl rfl ?_
    refine own_lload (pc' := 99) C at_97 rfl rfl ?_
    refine own_lload (pc' := 101) C at_99 rfl rfl ?_
    refine own_ladd (pc' := 102) C at_101 rfl rfl ?_
    obtain ⟨v36_102, hv36_102⟩ : ∃ z : Int64, z = (p2 + p4) := ⟨_, rfl⟩
    refine own_lstore (pc' := 104) (y := v36_102) (Ls' := #[.val (.long p0), .second, .val (.long p1), .second, .val (.long p2), .second, .val (.long p3), .second, .val (.long p4), .second, .val (.int p5), .val (.int (2 : Int32)), .val (.long p0), .second, .val (.long p1), .second, .val (.long p2), .second, .val (.long p3), .second, .val (.long p4), .second, .val (.long v22_28), .second, .val (.long v24_35), .second, .val (.long p4), .second, .val (.long v28_49), .second, .val (.long v30_55), .second, .val (.long v32_88), .second, .val (.long v34_95), .second, .val (.long v36_102), .second, .unset, .unset, .unset, .unset, .unset, .unset, .unset, .unset, .unset]) C at_102 hv36_102.symm rfl rfl ?_
    refine own_lload (pc' := 106) C at_104 rfl rfl ?_
    refine own_lload (pc' := 108) C at_106 rfl rfl ?_
    refine own_ladd (pc' := 109) C at_108 rfl rfl ?_
    obtain ⟨v38_109, hv38_109⟩ : ∃ z : Int64, z = (p3 + v28_49) := ⟨_, rfl⟩
    refine own_lstore (pc' := 111) (y := v38_109) (Ls' := #[.val (.long p0), .second, .val (.long p1), .second, .val (.long p2), .second, .val (.long p3), .second, .val (.long p4), .second, .val (.int p5), .val (.int (2 : Int32)), .val (.long p0), .second, .val (.long p1), .second, .val (.long p2), .second, .val (.long p3), .second, .val (.long p4), .second, .val (.long v22_28), .second, .val (.long v24_35), .second, .val (.long p4), .second, .val (.long v28_49), .second, .val (.long v30_55), .second, .val (.long v32_88), .second, .val (.long v34_95), .second, .val (.long v36_102), .second, .val (.long v38_109), .second, .unset, .unset, .unset, .unset, .unset, .unset, .unset]) C at_109 hv38_109.symm rfl rfl ?_
    refine own_lload (pc' := 113) C at_111 rfl rfl ?_
    refine own_lload (pc' := 115) C at_113 rfl rfl ?_
    refine own_ladd (pc' := 116) C at_115 rfl rfl ?_
    obtain ⟨v40_116, hv40_116⟩ : ∃ z : Int64, z = (p4 + v30_55) := ⟨_, rfl⟩
    refine own_lstore (pc' := 118) (y := v40_116) (Ls' := #[.val (.long p0), .second, .val (.long p1), .second, .val (.long p2), .second, .val (.long p3), .second, .val (.long p4), .second, .val (.int p5), .val (.int (2 : Int32)), .val (.long p0), .second, .val (.long p1), .second, .val (.long p2), .second, .val (.long p3), .second, .val (.long p4), .second, .val (.long v22_28), .second, .val (.long v24_35), .second, .val (.long p4), .second, .val (.long v28_49), .second, .val (.long v30_55), .second, .val (.long v32_88), .second, .val (.long v34_95), .second, .val (.long v36_102), .second, .val (.long v38_109), .second, .val (.long v40_116), .second, .unset, .unset, .unset, .unset, .unset]) C at_116 hv40_116.symm rfl rfl ?_
    refine own_iconst (pc' := 119) (v := (5 : Int32)) C at_118 own_ki_5 rfl ?_
    refine own_newJ (pc' := 121) (len := 5) (cap := 5) C at_119 (hw _ (List.mem_of_getElem? (i := 0) rfl)) (by decide) rfl (by decide) (by decide) (by decide) (by decide) rfl ?_
    intro h1 b1 g1 X1 A_b1
    have g_b1 : n0 ≤ b1 := g1 ▸ Z_
    replace Z_ := Nat.le_trans Z_ X1.1
    replace A_b1 : AJ Z h1 b1 [(0 : Int64), (0 : Int64), (0 : Int64), (0 : Int64), (0 : Int64)] := A_b1
    refine own_dup (pc' := 122) C at_121 rfl rfl ?_
    refine own_iconst (pc' := 123) (v := (0 : Int32)) C at_122 own_ki_0 rfl ?_
    refine own_lload (pc' := 125) C at_123 rfl rfl ?_
    refine own_lastore (pc' := 126) (i := 0) (ys := [p0, (0 : Int64), (0 : Int64), (0 : Int64), (0 : Int64)]) C at_125 A_b1 (by decide) rfl (Nat.le_of_ble_eq_true rfl) rfl g_b1 rfl ?_
    intro h2 W2 A2_
    replace A_b1 := A2_
    replace Z_ : n0 ≤ _ := Nat.le_trans Z_ (Nat.le_of_eq W2.size.symm)
    refine own_dup (pc' := 127) C at_126 rfl rfl ?_
    refine own_iconst (pc' := 128) (v := (1 : Int32)) C at_127 own_ki_1 rfl ?_
    refine own_lload (pc' := 130) C at_128 rfl rfl ?_
    refine own_lastore (pc' := 131) (i := 1) (ys := [p0, p1, (0 : Int64), (0 : Int64), (0 : Int64)]) C at_130 A_b1 (by decide) rfl (Nat.le_of_ble_eq_true rfl) rfl g_b1 rfl ?_
    intro h3 W3 A3_
    replace A_b1 := A3_
    replace Z_ : n0 ≤ _ := Nat.le_trans Z_ (Nat.le_of_eq W3.size.symm)
    refine own_dup (pc' := 132) C at_131 rfl rfl ?_
    refine own_iconst (pc' := 133) (v := (2 : Int32)) C at_132 own_ki_2 rfl ?_
    refine own_lload (pc' := 135) C at_133 rfl rfl ?_
    refine own_lastore (pc' := 136) (i := 2) (ys := [p0, p1, p2, (0 : Int64), (0 : Int64)]) C at_135 A_b1 (by decide) rfl (Nat.le_of_ble_eq_true rfl) rfl g_b1 rfl ?_
    intro h4 W4 A4_
    replace A_b1 := A4_
    replace Z_ : n0 ≤ _ := Nat.le_trans Z_ (Nat.le_of_eq W4.size.symm)
    refine own_dup (pc' := 137) C at_136 rfl rfl ?_
    refine own_iconst (pc' := 138) (v := (3 : Int32)) C at_137 own_ki_3 rfl ?_
    refine own_lload (pc' := 140) C at_138 rfl rfl ?_
    refine own_lastore (pc' := 141) (i := 3) (ys := [p0, p1, p2, p3, (0 : Int64)]) C at_140 A_b1 (by decide) rfl (Nat.le_of_ble_eq_true rfl) rfl g_b1 rfl ?_
    intro h5 W5 A5_
    replace A_b1 := A5_
    replace Z_ : n0 ≤ _ := Nat.le_trans Z_ (Nat.le_of_eq W5.size.symm)
    refine own_dup (pc' := 142) C at_141 rfl rfl ?_
    refine own_iconst (pc' := 143) (v := (4 : Int32)) C at_142 own_ki_4 rfl ?_
    refine own_lload (pc' := 145) C at_143 rfl rfl ?_
    refine own_lastore (pc' := 146) (i := 4) (ys := [p0, p1, p2, p3, p4]) C at_145 A_b1 (by decide) rfl (Nat.le_of_ble_eq_true rfl) rfl g_b1 rfl ?_
    intro h6 W6 A6_
    replace A_b1 := A6_
    replace Z_ : n0 ≤ _ := Nat.le_trans Z_ (Nat.le_of_eq W6.size.symm)
    refine own_astore (pc' := 148) (Ls' := #[.val (.long p0), .second, .val (.long p1), .second, .val (.long p2), .second, .val (.long p3), .second, .val (.long p4), .second, .val (.int p5), .val (.int (2 : Int32)), .val (.long p0), .second, .val (.long p1), .second, .val (.long p2), .second, .val (.long p3), .second, .val (.long p4), .second, .val (.long v22_28), .second, .val (.long v24_35), .second, .val (.long p4), .second, .val (.long v28_49), .second, .val (.long v30_55), .second, .val (.long v32_88), .second, .val (.long v34_95), .second, .val (.long v36_102), .second, .val (.long v38_109), .second, .val (.long v40_116), .second, .val (.ref b1), .unset, .unset, .unset, .unset]) C at_146 rfl rfl rfl ?_
    refine own_iconst (pc' := 149) (v := (5 : Int32)) C at_148 own_ki_5 rfl ?_
    refine own_newJ (pc' := 151) (len := 5) (cap := 5) C at_149 (hw _ (List.mem_of_getElem? (i := 0) rfl)) (by decide) rfl (by decide) (by decide) (by decide) (by decide) rfl ?_
    intro h7 b7 g7 X7 A_b7
    have ne_b1_b7 : b1 ≠ b7 := Nat.ne_of_lt (g7 ▸ A_b1.lt)
    replace A_b1 := A_b1.ext X7
    have g_b7 : n0 ≤ b7 := g7 ▸ Z_
    replace Z_ := Nat.le_trans Z_ X7.1
    replace A_b7 : AJ Z h7 b7 [(0 : Int64), (0 : Int64), (0 : Int64), (0 : Int64), (0 : Int64)] := A_b7
    refine own_dup (pc' := 152) C at_151 rfl rfl ?_
    refine own_iconst (pc' := 153) (v := (0 : Int32)) C at_152 own_ki_0 rfl ?_
    refine own_lload (pc' := 155) C at_153 rfl rfl ?_
    refine own_lastore (pc' := 156) (i := 0) (ys := [v22_28, (0 : Int64), (0 : Int64), (0 : Int64), (0 : Int64)]) C at_155 A_b7 (by decide) rfl (Nat.le_of_ble_eq_true rfl) rfl g_b7 rfl ?_
    intro h8 W8 A8_
    replace A_b1 := A_b1.other W8 ne_b1_b7
    replace A_b7 := A8_
    replace Z_ : n0 ≤ _ := Nat.le_trans Z_ (Nat.le_of_eq W8.size.symm)
    refine own_dup (pc' := 157) C at_156 rfl rfl ?_
    refine own_iconst (pc' := 158) (v := (1 : Int32)) C at_157 own_ki_1 rfl ?_
    refine own_lload (pc' := 160) C at_158 rfl rfl ?_
    refine own_lastore (pc' := 161) (i := 1) (ys := [v22_28, v24_35, (0 : Int64), (0 : Int64), (0 : Int64)]) C at_160 A_b7 (by decide) rfl (Nat.le_of_ble_eq_true rfl) rfl g_b7 rfl ?_
    intro h9 W9 A9_
    replace A_b1 := A_b1.other W9 ne_b1_b7
    replace A_b7 := A9_
    replace Z_ : n0 ≤ _ := Nat.le_trans Z_ (Nat.le_of_eq W9.size.symm)
    refine own_dup (pc' := 162) C at_161 rfl rfl ?_
    refine own_iconst (pc' := 163) (v := (2 : Int32)) C at_162 own_ki_2 rfl ?_
    refine own_lload (pc' := 165) C at_163 rfl rfl ?_
    refine own_lastore (pc' := 166) (i := 2) (ys := [v22_28, v24_35, p4, (0 : Int64), (0 : Int64)]) C at_165 A_b7 (by decide) rfl (Nat.le_of_ble_eq_true rfl) rfl g_b7 rfl ?_
    intro h10 W10 A10_
    replace A_b1 := A_b1.other W10 ne_b1_b7
    replace A_b7 := A10_
    replace Z_ : n0 ≤ _ := Nat.le_trans Z_ (Nat.le_of_eq W10.size.symm)
    refine own_dup (pc' := 167) C at_166 rfl rfl ?_
    refine own_iconst (pc' := 168) (v := (3 : Int32)) C at_167 own_ki_3 rfl ?_
    refine own_lload (pc' := 170) C at_168 rfl rfl ?_
    refine own_lastore (pc' := 171) (i := 3) (ys := [v22_28, v24_35, p4, v28_49, (0 : Int64)]) C at_170 A_b7 (by decide) rfl (Nat.le_of_ble_eq_true rfl) rfl g_b7 rfl ?_
    intro h11 W11 A11_
    replace A_b1 := A_b1.other W11 ne_b1_b7
    replace A_b7 := A11_
    replace Z_ : n0 ≤ _ := Nat.le_trans Z_ (Nat.le_of_eq W11.size.symm)
    refine own_dup (pc' := 172) C at_171 rfl rfl ?_
    refine own_iconst (pc' := 173) (v := (4 : Int32)) C at_172 own_ki_4 rfl ?_
    refine own_lload (pc' := 175) C at_173 rfl rfl ?_
    refine own_lastore (pc' := 176) (i := 4) (ys := [v22_28, v24_35, p4, v28_49, v30_55]) C at_175 A_b7 (by decide) rfl (Nat.le_of_ble_eq_true rfl) rfl g_b7 rfl ?_
    intro h12 W12 A12_
    replace A_b1 := A_b1.other W12 ne_b1_b7
    replace A_b7 := A12_
    replace Z_ : n0 ≤ _ := Nat.le_trans Z_ (Nat.le_of_eq W12.size.symm)
    refine own_astore (pc' := 178) (Ls' := #[.val (.long p0), .second, .val (.long p1), .second, .val (.long p2), .second, .val (.long p3), .second, .val (.long p4), .second, .val (.int p5), .val (.int (2 : Int32)), .val (.long p0), .second, .val (.long p1), .second, .val (.long p2), .second, .val (.long p3), .second, .val (.long p4), .second, .val (.long v22_28), .second, .val (.long v24_35), .second, .val (.long p4), .second, .val (.long v28_49), .second, .val (.long v30_55), .second, .val (.long v32_88), .second, .val (.long v34_95), .second, .val (.long v36_102), .second, .val (.long v38_109), .second, .val (.long v40_116), .second, .val (.ref b1), .val (.ref b7), .unset, .unset, .unset]) C at_176 rfl rfl rfl ?_
    refine own_iconst (pc' := 179) (v := (5 : Int32)) C at_178 own_ki_5 rfl ?_
    refine own_newJ (pc' := 181) (len := 5) (cap := 5) C at_179 (hw _ (List.mem_of_getElem? (i := 0) rfl)) (by decide) rfl (by decide) (by decide) (by decide) (by decide) rfl ?_
    intro h13 b13 g13 X13 A_b13
    have ne_b1_b13 : b1 ≠ b13 := Nat.ne_of_lt (g13 ▸ A_b1.lt)
    have ne_b7_b13 : b7 ≠ b13 := Nat.ne_of_lt (g13 ▸ A_b7.lt)
    replace A_b1 := A_b1.ext X13
    replace A_b7 := A_b7.ext X13
    have g_b13 : n0 ≤ b13 := g13 ▸ Z_
    replace Z_ := Nat.le_trans Z_ X13.1
    replace A_b13 : AJ Z h13 b13 [(0 : Int64), (0 : Int64), (0 : Int64), (0 : Int64), (0 : Int64)] := A_b13
    refine own_dup (pc' := 182) C at_181 rfl rfl ?_
    refine own_iconst (pc' := 183) (v := (0 : Int32)) C at_182 own_ki_0 rfl ?_
    refine own_lloadN (pc' := 184) C at_183 rfl rfl ?_
    refine own_lastore (pc' := 185) (i := 0) (ys := [p1, (0 : Int64), (0 : Int64), (0 : Int64), (0 : Int64)]) C at_184 A_b13 (by decide) rfl (Nat.le_of_ble_eq_true rfl) rfl g_b13 rfl ?_
    intro h14 W14 A14_
    replace A_b1 := A_b1.other W14 ne_b1_b13
    replace A_b7 := A_b7.other W14 ne_b7_b13
    replace A_b13 := A14_
    replace Z_ : n0 ≤ _ := Nat.le_trans Z_ (Nat.le_of_eq W14.size.symm)
    refine own_dup (pc' := 186) C at_185 rfl rfl ?_
    refine own_iconst (pc' := 187) (v := (1 : Int32)) C at_186 own_ki_1 rfl ?_
    refine own_lload (pc' := 189) C at_187 rfl rfl ?_
    refine own_lastore (pc' := 190) (i := 1) (ys := [p1, p2, (0 : Int64), (0 : Int64), (0 : Int64)]) C at_189 A_b13 (by decide) rfl (Nat.le_of_ble_eq_true rfl) rfl g_b13 rfl ?_
    intro h15 W15 A15_
    replace A_b1 := A_b1.other W15 ne_b1_b13
    replace A_b7 := A_b7.other W15 ne_b7_b13
    replace A_b13 := A15_
    replace Z_ : n0 ≤ _ := Nat.le_trans Z_ (Nat.le_of_eq W15.size.symm)
    refine own_dup (pc' := 191) C at_190 rfl rfl ?_
    refine own_iconst (pc' := 192) (v := (2 : Int32)) C at_191 own_ki_2 rfl ?_
    refine own_lload (pc' := 194) C at_192 rfl rfl ?_
    refine own_lastore (pc' := 195) (i := 2) (ys := [p1, p2, p3, (0 : Int64), (0 : Int64)]) C at_194 A_b13 (by decide) rfl (Nat.le_of_ble_eq_true rfl) rfl g_b13 rfl ?_
    intro h16 W16 A16_
    replace A_b1 := A_b1.other W16 ne_b1_b13
    replace A_b7 := A_b7.other W16 ne_b7_b13
    replace A_b13 := A16_
    replace Z_ : n0 ≤ _ := Nat.le_trans Z_ (Nat.le_of_eq W16.size.symm)
    refine own_dup (pc' := 196) C at_195 rfl rfl ?_
    refine own_iconst (pc' := 197) (v := (3 : Int32)) C at_196 own_ki_3 rfl ?_
    refine own_lload (pc' := 199) C at_197 rfl rfl ?_
    refine own_lastore (pc' := 200) (i := 3) (ys := [p1, p2, p3, p4, (0 : Int64)]) C at_199 A_b13 (by decide) rfl (Nat.le_of_ble_eq_true rfl) rfl g_b13 rfl ?_
    intro h17 W17 A17_
    replace A_b1 := A_b1.other W17 ne_b1_b13
    replace A_b7 := A_b7.other W17 ne_b7_b13
    replace A_b13 := A17_
    replace Z_ : n0 ≤ _ := Nat.le_trans Z_ (Nat.le_of_eq W17.size.symm)
    refine own_dup (pc' := 201) C at_200 rfl rfl ?_
    refine own_iconst (pc' := 202) (v := (4 : Int32)) C at_201 own_ki_4 rfl ?_
    refine own_lloadN (pc' := 203) C at_202 rfl rfl ?_
    refine own_lastore (pc' := 204) (i := 4) (ys := [p1, p2, p3, p4, p0]) C at_203 A_b13 (by decide) rfl (Nat.le_of_ble_eq_true rfl) rfl g_b13 rfl ?_
    intro h18 W18 A18_
    replace A_b1 := A_b1.other W18 ne_b1_b13
    replace A_b7 := A_b7.other W18 ne_b7_b13
    replace A_b13 := A18_
    replace Z_ : n0 ≤ _ := Nat.le_trans Z_ (Nat.le_of_eq W18.size.symm)
    refine own_astore (pc' := 206) (Ls' := #[.val (.long p0), .second, .val (.long p1), .second, .val (.long p2), .second, .val (.long p3), .second, .val (.long p4), .second, .val (.int p5), .val (.int (2 : Int32)), .val (.long p0), .second, .val (.long p1), .second, .val (.long p2), .second, .val (.long p3), .second, .val (.long p4), .second, .val (.long v22_28), .second, .val (.long v24_35), .second, .val (.long p4), .second, .val (.long v28_49), .second, .val (.long v30_55), .second, .val (.long v32_88), .second, .val (.long v34_95), .second, .val (.long v36_102), .second, .val (.long v38_109), .second, .val (.long v40_116), .second, .val (.ref b1), .val (.ref b7), .val (.ref b13), .unset, .unset]) C at_204 rfl rfl rfl ?_
    refine own_aload (pc' := 208) C at_206 rfl rfl rfl ?_
    refine own_astore (pc' := 210) (Ls' := #[.val (.long p0), .second, .val (.long p1), .second, .val (.long p2), .second, .val (.long p3), .second, .val (.long p4), .second, .val (.int p5), .val (.int (2 : Int32)), .val (.long p0), .second, .val (.long p1), .second, .val (.long p2), .second, .val (.long p3), .second, .val (.long p4), .second, .val (.long v22_28), .second, .val (.long v24_35), .second, .val (.long p4), .second, .val (.long v28_49), .second, .val (.long v30_55), .second, .val (.long v32_88), .second, .val (.long v34_95), .second, .val (.long v36_102), .second, .val (.long v38_109), .second, .val (.long v40_116), .second, .val (.ref b1), .val (.ref b7), .val (.ref b13), .val (.ref b13), .unset]) C at_208 rfl rfl rfl ?_
    refine own_iload (pc' := 212) C at_210 rfl rfl ?_
    refine own_iconst (pc' := 213) (v := (1 : Int32)) C at_212 own_ki_1 rfl ?_
    refine own_icmp_ne (pt := 223) (pf := 216) C at_213 (by decide) (by decide) rfl (fun _ => ?_) (fun q => absurd q (by decide))
    refine own_iload (pc' := 225) C at_223 rfl rfl ?_
    refine own_iconst (pc' := 226) (v := (2 : Int32)) C at_225 own_ki_2 rfl ?_
    refine own_icmp_ne (pt := 236) (pf := 229) C at_226 (by decide) (by decide) rfl (fun q => absurd (by decide) q) (fun _ => ?_)
    refine own_aload (pc' := 231) C at_229 rfl rfl rfl ?_
    refine own_astore (pc' := 233) (Ls' := #[.val (.long p0), .second, .val (.long p1), .second, .val (.long p2), .second, .val (.long p3), .second, .val (.long p4), .second, .val (.int p5), .val (.int (2 : Int32)), .val (.long p0), .second, .val (.long p1), .second, .val (.long p2), .second, .val (.long p3), .second, .val (.long p4), .second, .val (.long v22_28), .second, .val (.long v24_35), .second, .val (.long p4), .second, .val (.long v28_49), .second, .val (.long v30_55), .second, .val (.long v32_88), .second, .val (.long v34_95), .second, .val (.long v36_102), .second, .val (.long v38_109), .second, .val (.long v40_116), .second, .val (.ref b1), .val (.ref b7), .val (.ref b13), .val (.ref b7), .unset]) C at_231 rfl rfl rfl ?_
    refine own_goto (pc' := 250) C at_233 (by decide) (by decide) ?_
    refine own_aload (pc' := 252) C at_250 rfl rfl rfl ?_
    refine own_aload (pc' := 254) C at_252 rfl rfl rfl ?_
    refine own_aload (pc' := 256) C at_254 rfl rfl rfl ?_
    refine own_callS (pc' := 259) (wL := 0) (argsL := [(.ref b7), (.ref b1), (.ref b7)]) (rest := []) C (own_add2 l Z a0 hw b7 b1 v22_28 v24_35 p4 v28_49 v30_55 p0 p1 p2 p3 p4 h18 n0 Z_ A_b7 A_b1 g_b7 (Ne.symm ne_b1_b7)) at_256 (hw _ (List.mem_of_getElem? (i := 1) rfl)) (hw _ (List.mem_of_getElem? (i := 2) rfl)) (hw _ (List.mem_of_getElem? (i := 3) rfl)) (hw _ (List.mem_of_getElem? (i := 4) rfl)) (by decide) (by decide) (by decide) rfl (lenOf pd1 rfl) rfl rfl (Nat.le_of_eq rfl) (by decide) (by decide) rfl ?_
    rintro _ h19 ⟨rfl, K19, A19_⟩
    replace A_b1 := A_b1.keep K19 (ninS ne_b1_b7 nin0)
    replace A_b13 := A_b13.keep K19 (ninS (Ne.symm ne_b7_b13) nin0)
    replace Z_ := Nat.le_trans Z_ K19.1
    replace A_b7 := A19_
    show Wp p l e _ s m _ below meth c n0 _ h19 (((0 + 1) + 1) + 1) (((0 + 5) + 5) + 5) (mkF m 259 #[.val (.long p0), .second, .val (.long p1), .second, .val (.long p2), .second, .val (.long p3), .second, .val (.long p4), .second, .val (.int p5), .val (.int (2 : Int32)), .val (.long p0), .second, .val (.long p1), .second, .val (.long p2), .second, .val (.long p3), .second, .val (.long p4), .second, .val (.long v22_28), .second, .val (.long v24_35), .second, .val (.long p4), .second, .val (.long v28_49), .second, .val (.long v30_55), .second, .val (.long v32_88), .second, .val (.long v34_95), .second, .val (.long v36_102), .second, .val (.long v38_109), .second, .val (.long v40_116), .second, .val (.ref b1), .val (.ref b7), .val (.ref b13), .val (.ref b7), .unset] [])
    refine own_aload (pc' := 261) C at_259 rfl rfl rfl ?_
    refine own_iconst (pc' := 262) (v := (0 : Int32)) C at_261 own_ki_0 rfl ?_
    refine own_laload (pc' := 263) (v := (p0 + v22_28)) (i := 0) C at_262 A_b7 (by decide) rfl rfl rfl ?_
    refine own_lload (pc' := 265) C at_263 rfl rfl ?_
    refine own_lcmp_ne (pt := 313) (pf := 269) C at_265 rfl at_266 (by decide) (by decide) rfl (fun q => absurd hv32_88.symm q) (fun _ => ?_)
    refine own_aload (pc' := 271) C at_269 rfl rfl rfl ?_
    refine own_iconst (pc' := 272) (v := (1 : Int32)) C at_271 own_ki_1 rfl ?_
    refine own_laload (pc' := 273) (v := (p1 + v24_35)) (i := 1) C at_272 A_b7 (by decide) rfl rfl rfl ?_
    refine own_lload (pc' := 275) C at_273 rfl rfl ?_
    refine own_lcmp_ne (pt := 313) (pf := 279) C at_275 rfl at_276 (by decide) (by decide) rfl (fun q => absurd hv34_95.symm q) (fun _ => ?_)
    refine own_aload (pc' := 281) C at_279 rfl rfl rfl ?_
    refine own_iconst (pc' := 282) (v := (2 : Int32)) C at_281 own_ki_2 rfl ?_
    refine own_laload (pc' := 283) (v := (p2 + p4)) (i := 2) C at_282 A_b7 (by decide) rfl rfl rfl ?_
    refine own_lload (pc' := 285) C at_283 rfl rfl ?_
    refine own_lcmp_ne (pt := 313) (pf := 289) C at_285 rfl at_286 (by decide) (by decide) rfl (fun q => absurd hv36_102.symm q) (fun _ => ?_)
    refine own_aload (pc' := 291) C at_289 rfl rfl rfl ?_
    refine own_iconst (pc' := 292) (v := (3 : Int32)) C at_291 own_ki_3 rfl ?_
    refine own_laload (pc' := 293) (v := (p3 + v28_49)) (i := 3) C at_292 A_b7 (by decide) rfl rfl rfl ?_
    refine own_lload (pc' := 295) C at_293 rfl rfl ?_
    refine own_lcmp_ne (pt := 313) (pf := 299) C at_295 rfl at_296 (by decide) (by decide) rfl (fun q => absurd hv38_109.symm q) (fun _ => ?_)
    refine own_aload (pc' := 301) C at_299 rfl rfl rfl ?_
    refine own_iconst (pc' := 302) (v := (4 : Int32)) C at_301 own_ki_4 rfl ?_
    refine own_laload (pc' := 303) (v := (p4 + v30_55)) (i := 4) C at_302 A_b7 (by decide) rfl rfl rfl ?_
    refine own_lload (pc' := 305) C at_303 rfl rfl ?_
    refine own_lcmp_ne (pt := 313) (pf := 309) C at_305 rfl at_306 (by decide) (by decide) rfl (fun q => absurd hv40_116.symm q) (fun _ => ?_)
    refine own_iconst (pc' := 310) (v := (1 : Int32)) C at_309 own_ki_1 rfl ?_
    refine own_goto (pc' := 314) C at_310 (by decide) (by decide) ?_
    refine own_istore (pc' := 316) (y := (1 : Int32)) (Ls' := #[.val (.long p0), .second, .val (.long p1), .second, .val (.long p2), .second, .val (.long p3), .second, .val (.long p4), .second, .val (.int p5), .val (.int (2 : Int32)), .val (.long p0), .second, .val (.long p1), .second, .val (.long p2), .second, .val (.long p3), .second, .val (.long p4), .second, .val (.long v22_28), .second, .val (.long v24_35), .second, .val (.long p4), .second, .val (.long v28_49), .second, .val (.long v30_55), .second, .val (.long v32_88), .second, .val (.long v34_95), .second, .val (.long v36_102), .second, .val (.long v38_109), .second, .val (.long v40_116), .second, .val (.ref b1), .val (.ref b7), .val (.ref b13), .val (.ref b7), .val (.int (1 : Int32))]) C at_314 rfl rfl rfl ?_
    refine own_iload (pc' := 318) C at_316 rfl rfl ?_
    refine own_if_eq (pt := 327) (pf := 321) C at_318 (by decide) (by decide) rfl (fun q => absurd q (by decide)) (fun _ => ?_)
    refine own_iload (pc' := 323) C at_321 rfl rfl ?_
    refine own_iconst (pc' := 324) (v := (2 : Int32)) C at_323 own_ki_2 rfl ?_
    refine own_icmp_ne (pt := 389) (pf := 327) C at_324 (by decide) (by decide) rfl (fun q => absurd (by decide) q) (fun _ => ?_)
    refine own_iload (pc' := 329) C at_327 rfl rfl ?_
    refine own_if_eq (pt := 386) (pf := 332) C at_329 (by decide) (by decide) rfl (fun q => absurd q (by decide)) (fun _ => ?_)
    refine own_aload (pc' := 334) C at_332 rfl rfl rfl ?_
    refine own_iconst (pc' := 335) (v := (0 : Int32)) C at_334 own_ki_0 rfl ?_
    refine own_laload (pc' := 336) (v := p0) (i := 0) C at_335 A_b1 (by decide) rfl rfl rfl ?_
    refine own_lload (pc' := 338) C at_336 rfl rfl ?_
    refine own_lcmp_ne (pt := 386) (pf := 342) C at_338 rfl at_339 (by decide) (by decide) rfl (fun q => absurd rfl q) (fun _ => ?_)
    refine own_aload (pc' := 344) C at_342 rfl rfl rfl ?_
    refine own_iconst (pc' := 345) (v := (1 : Int32)) C at_344 own_ki_1 rfl ?_
    refine own_laload (pc' := 346) (v := p1) (i := 1) C at_345 A_b1 (by decide) rfl rfl rfl ?_
    refine own_lload (pc' := 348) C at_346 rfl rfl ?_
    refine own_lcmp_ne (pt := 386) (pf := 352) C at_348 rfl at_349 (by decide) (by decide) rfl (fun q => absurd rfl q) (fun _ => ?_)
    refine own_aload (pc' := 354) C at_352 rfl rfl rfl ?_
    refine own_iconst (pc' := 355) (v := (2 : Int32)) C at_354 own_ki_2 rfl ?_
    refine own_laload (pc' := 356) (v := p2) (i := 2) C at_355 A_b1 (by decide) rfl rfl rfl ?_
    refine own_lload (pc' := 358) C at_356 rfl rfl ?_
    refine own_lcmp_ne (pt := 386) (pf := 362) C at_358 rfl at_359 (by decide) (by decide) rfl (fun q => absurd rfl q) (fun _ => ?_)
    refine own_aload (pc' := 364) C at_362 rfl rfl rfl ?_
    refine own_iconst (pc' := 365) (v := (3 : Int32)) C at_364 own_ki_3 rfl ?_
    refine own_laload (pc' := 366) (v := p3) (i := 3) C at_365 A_b1 (by decide) rfl rfl rfl ?_
    refine own_lload (pc' := 368) C at_366 rfl rfl ?_
    refine own_lcmp_ne (pt := 386) (pf := 372) C at_368 rfl at_369 (by decide) (by decide) rfl (fun q => absurd rfl q) (fun _ => ?_)
    refine own_aload (pc' := 374) C at_372 rfl rfl rfl ?_
    refine own_iconst (pc' := 375) (v := (4 : Int32)) C at_374 own_ki_4 rfl ?_
    refine own_laload (pc' := 376) (v := p4) (i := 4) C at_375 A_b1 (by decide) rfl rfl rfl ?_
    refine own_lload (pc' := 378) C at_376 rfl rfl ?_
    refine own_lcmp_ne (pt := 386) (pf := 382) C at_378 rfl at_379 (by decide) (by decide) rfl (fun q => absurd rfl q) (fun _ => ?_)
    refine own_iconst (pc' := 383) (v := (1 : Int32)) C at_382 own_ki_1 rfl ?_
    refine own_goto (pc' := 387) C at_383 (by decide) (by decide) ?_
    refine own_istore (pc' := 389) (y := (1 : Int32)) (Ls' := #[.val (.long p0), .second, .val (.long p1), .second, .val (.long p2), .second, .val (.long p3), .second, .val (.long p4), .second, .val (.int p5), .val (.int (2 : Int32)), .val (.long p0), .second, .val (.long p1), .second, .val (.long p2), .second, .val (.long p3), .second, .val (.long p4), .second, .val (.long v22_28), .second, .val (.long v24_35), .second, .val (.long p4), .second, .val (.long v28_49), .second, .val (.long v30_55), .second, .val (.long v32_88), .second, .val (.long v34_95), .second, .val (.long v36_102), .second, .val (.long v38_109), .second, .val (.long v40_116), .second, .val (.ref b1), .val (.ref b7), .val (.ref b13), .val (.ref b7), .val (.int (1 : Int32))]) C at_387 rfl rfl rfl ?_
    refine own_iload (pc' := 391) C at_389 rfl rfl ?_
    refine own_if_eq (pt := 400) (pf := 394) C at_391 (by decide) (by decide) rfl (fun q => absurd q (by decide)) (fun _ => ?_)
    refine own_iload (pc' := 396) C at_394 rfl rfl ?_
    refine own_iconst (pc' := 397) (v := (1 : Int32)) C at_396 own_ki_1 rfl ?_
    refine own_icmp_ne (pt := 462) (pf := 400) C at_397 (by decide) (by decide) rfl (fun _ => ?_) (fun q => absurd q (by decide))
    refine own_iload (pc' := 464) C at_462 rfl rfl ?_
    refine own_zret C at_464 (by decide) (by decide) (Or.inr rfl) ?_
    exact rfl
  · subst q
    refine own_lloadN (pc' := 7) C at_6 rfl rfl ?_
    refine own_lstore (pc' := 9) (y := p0) (Ls' := #[.val (.long p0), .second, .val (.long p1), .second, .val (.long p2), .second, .val (.long p3), .second, .val (.long p4), .second, .val (.int p5), .val (.int (3 : Int32)), .val (.long p0), .second, .unset, .unset, .unset, .unset, .unset, .unset, .unset, .unset, .unset, .unset, .unset, .unset, .unset, .unset, .unset, .unset, .unset, .unset, .unset, .unset, .unset, .unset, .unset, .unset, .unset, .unset, .unset, .unset, .unset, .unset, .unset, .unset, .unset]) C at_7 rfl rfl rfl ?_
    refine own_lloadN (pc' := 10) C at_9 rfl rfl ?_
    refine own_lstore (pc' := 12) (y := p1) (Ls' := #[.val (.long p0), .second, .val (.long p1), .second, .val (.long p2), .second, .val (.long p3), .second, .val (.long p4), .second, .val (.int p5), .val (.int (3 : Int32)), .val (.long p0), .second, .val (.long p1), .second, .unset, .unset, .unset, .unset, .unset, .unset, .unset, .unset, .unset, .unset, .unset, .unset, .unset, .unset, .unset, .unset, .unset, .unset, .unset, .unset, .unset, .unset, .unset, .unset, .unset, .unset, .unset, .unset, .unset, .unset, .unset]) C at_10 rfl rfl rfl ?_
    refine own_lload (pc' := 14) C at_12 rfl rfl ?_
    refine own_lstore (pc' := 16) (y := p2) (Ls' := #[.val (.long p0), .second, .val (.long p1), .second, .val (.long p2), .second, .val (.long p3), .second, .val (.long p4), .second, .val (.int p5), .val (.int (3 : Int32)), .val (.long p0), .second, .val (.long p1), .second, .val (.long p2), .second, .unset, .unset, .unset, .unset, .unset, .unset, .unset, .unset, .unset, .unset, .unset, .unset, .unset, .unset, .unset, .unset, .unset, .unset, .unset, .unset, .unset, .unset, .unset, .unset, .unset, .unset, .unset, .unset, .unset]) C at_14 rfl rfl rfl ?_
    refine own_lload (pc' := 18) C at_16 rfl rfl ?_
    refine own_lstore (pc' := 20) (y := p3) (Ls' := #[.val (.long p0), .second, .val (.long p1), .second, .val (.long p2), .second, .val (.long p3), .second, .val (.long p4), .second, .val (.int p5), .val (.int (3 : Int32)), .val (.long p0), .second, .val (.long p1), .second, .val (.long p2), .second, .val (.long p3), .second, .unset, .unset, .unset, .unset, .unset, .unset, .unset, .unset, .unset, .unset, .unset, .unset, .unset, .unset, .unset, .unset, .unset, .unset, .unset, .unset, .unset, .unset, .unset, .unset, .unset, .unset, .unset]) C at_18 rfl rfl rfl ?_
    refine own_lload (pc' := 22) C at_20 rfl rfl ?_
    refine own_lstore (pc' := 24) (y := p4) (Ls' := #[.val (.long p0), .second, .val (.long p1), .second, .val (.long p2), .second, .val (.long p3), .second, .val (.long p4), .second, .val (.int p5), .val (.int (3 : Int32)), .val (.long p0), .second, .val (.long p1), .second, .val (.long p2), .second, .val (.long p3), .second, .val (.long p4), .second, .unset, .unset, .unset, .unset, .unset, .unset, .unset, .unset, .unset, .unset, .unset, .unset, .unset, .unset, .unset, .unset, .unset, .unset, .unset, .unset, .unset, .unset, .unset, .unset, .unset]) C at_22 rfl rfl rfl ?_
    refine own_lload (pc' := 26) C at_24 rfl rfl ?_
    refine own_lloadN (pc' := 27) C at_26 rfl rfl ?_
    refine own_lxor (pc' := 28) C at_27 rfl rfl ?_
    obtain ⟨v22_28, hv22_28⟩ : ∃ z : Int64, z = (p3 ^^^ p1) := ⟨_, rfl⟩
    refine own_lstore (pc' := 30) (y := v22_28) (Ls' := #[.val (.long p0), .second, .val (.long p1), .second, .val (.long p2), .second, .val (.long p3), .second, .val (.long p4), .second, .val (.int p5), .val (.int (3 : Int32)), .val (.long p0), .second, .val (.long p1), .second, .val (.long p2), .second, .val (.long p3), .second, .val (.long p4), .second, .val (.long v22_28), .second, .unset, .unset, .unset, .unset, .unset, .unset, .unset, .unset, .unset, .unset, .unset, .unset, .unset, .unset, .unset, .unset, .unset, .unset, .unset, .unset, .unset, .unset, .unset]) C at_28 hv22_28.symm rfl rfl ?_
    refine own_lloadN (pc' := 31) C at_30 rfl rfl ?_
    refine own_iload (pc' := 33) C at_31 rfl rfl ?_
    refine own_i2l (pc' := 34) C at_33 rfl rfl ?_
    refine own_ladd (pc' := 35) C at_34 rfl rfl ?_
    obtain ⟨v24_35, hv24_35⟩ : ∃ z : Int64, z = (p0 + (p5.toInt64)) := ⟨_, rfl⟩
    refine own_lstore (pc' := 37) (y := v24_35) (Ls' := #[.val (.long p0), .second, .val (.long p1), .second, .val (.long p2), .second, .val (.long p3), .second, .val (.long p4), .second, .val (.int p5), .val (.int (3 : Int32)), .val (.long p0), .second, .val (.long p1), .second, .val (.long p2), .second, .val (.long p3), .second, .val (.long p4), .second, .val (.long v22_28), .second, .val (.long v24_35), .second, .unset, .unset, .unset, .unset, .unset, .unset, .unset, .unset, .unset, .unset, .unset, .unset, .unset, .unset, .unset, .unset, .unset, .unset, .unset, .unset, .unset]) C at_35 hv24_35.symm rfl rfl ?_
    refine own_lload (pc' := 39) C at_37 rfl rfl ?_
    refine own_lstore (pc' := 41) (y := p4) (Ls' := #[.val (.long p0), .second, .val (.long p1), .second, .val (.long p2), .second, .val (.long p3), .second, .val (.long p4), .second, .val (.int p5), .val (.int (3 : Int32)), .val (.long p0), .second, .val (.long p1), .second, .val (.long p2), .second, .val (.long p3), .second, .val (.long p4), .second, .val (.long v22_28), .second, .val (.long v24_35), .second, .val (.long p4), .second, .unset, .unset, .unset, .unset, .unset, .unset, .unset, .unset, .unset, .unset, .unset, .unset, .unset, .unset, .unset, .unset, .unset, .unset, .unset]) C at_39 rfl rfl rfl ?_
    refine own_lload (pc' := 43) C at_41 rfl rfl ?_
    refine own_iload (pc' := 45) C at_43 rfl rfl ?_
    refine own_iconst (pc' := 46) (v := (2 : Int32)) C at_45 own_ki_2 rfl ?_
    refine own_ishr (pc' := 47) (v := (p5 >>> (2 : Int32))) C at_46 (own_sishr_2 _) rfl ?_
    refine own_i2l (pc' := 48) C at_47 rfl rfl ?_
    refine own_lxor (pc' := 49) C at_48 rfl rfl ?_
    obtain ⟨v28_49, hv28_49⟩ : ∃ z : Int64, z = (p2 ^^^ ((p5 >>> (2 : Int32)).toInt64)) := ⟨_, rfl⟩
    refine own_lstore (pc' := 51) (y := v28_49) (Ls' := #[.val (.long p0), .second, .val (.long p1), .second, .val (.long p2), .second, .val (.long p3), .second, .val (.long p4), .second, .val (.int p5), .val (.int (3 : Int32)), .val (.long p0), .second, .val (.long p1), .second, .val (.long p2), .second, .val (.long p3), .second, .val (.long p4), .second, .val (.long v22_28), .second, .val (.long v24_35), .second, .val (.long p4), .second, .val (.long v28_49), .second, .unset, .unset, .unset, .unset, .unset, .unset, .unset, .unset, .unset, .unset, .unset, .unset, .unset, .unset, .unset, .unset, .unset]) C at_49 hv28_49.symm rfl rfl ?_
    refine own_lloadN (pc' := 52) C at_51 rfl rfl ?_
    refine own_lload (pc' := 54) C at_52 rfl rfl ?_
    refine own_lsub (pc' := 55) C at_54 rfl rfl ?_
    obtain ⟨v30_55, hv30_55⟩ : ∃ z : Int64, z = (p1 - p2) := ⟨_, rfl⟩
    refine own_lstore (pc' := 57) (y := v30_55) (Ls' := #[.val (.long p0), .second, .val (.long p1), .second, .val (.long p2), .second, .val (.long p3), .second, .val (.long p4), .second, .val (.int p5), .val (.int (3 : Int32)), .val (.long p0), .second, .val (.long p1), .second, .val (.long p2), .second, .val (.long p3), .second, .val (.long p4), .second, .val (.long v22_28), .second, .val (.long v24_35), .second, .val (.long p4), .second, .val (.long v28_49), .second, .val (.long v30_55), .second, .unset, .unset, .unset, .unset, .unset, .unset, .unset, .unset, .unset, .unset, .unset, .unset, .unset, .unset, .unset]) C at_55 hv30_55.symm rfl rfl ?_
    refine own_iload (pc' := 59) C at_57 rfl rfl ?_
    refine own_iconst (pc' := 60) (v := (3 : Int32)) C at_59 own_ki_3 rfl ?_
    refine own_icmp_ne (pt := 83) (pf := 63) C at_60 (by decide) (by decide) rfl (fun q => absurd (by decide) q) (fun _ => ?_)
    refine own_lload (pc' := 65) C at_63 rfl rfl ?_
    refine own_lstore (pc' := 67) (y := p0) (Ls' := #[.val (.long p0), .second, .val (.long p1), .second, .val (.long p2), .second, .val (.long p3), .second, .val (.long p4), .second, .val (.int p5), .val (.int (3 : Int32)), .val (.long p0), .second, .val (.long p1), .second, .val (.long p2), .second, .val (.long p3), .second, .val (.long p4), .second, .val (.long p0), .second, .val (.long v24_35), .second, .val (.long p4), .second, .val (.long v28_49), .second, .val (.long v30_55), .second, .unset, .unset, .unset, .unset, .unset, .unset, .unset, .unset, .unset, .unset, .unset, .unset, .unset, .unset, .unset]) C at_65 rfl rfl rfl ?_
    refine own_lload (pc' := 69) C at_67 rfl rfl ?_
    refine own_lstore (pc' := 71) (y := p1) (Ls' := #[.val (.long p0), .second, .val (.long p1), .second, .val (.long p2), .second, .val (.long p3), .second, .val (.long p4), .second, .val (.int p5), .val (.int (3 : Int32)), .val (.long p0), .second, .val (.long p1), .second, .val (.long p2), .second, .val (.long p3), .second, .val (.long p4), .second, .val (.long p0), .second, .val (.long p1), .second, .val (.long p4), .second, .val (.long v28_49), .second, .val (.long v30_55), .second, .unset, .unset, .unset, .unset, .unset, .unset, .unset, .unset, .unset, .unset, .unset, .unset, .unset, .unset, .unset]) C at_69 rfl rfl rfl ?_
    refine own_lload (pc' := 73) C at_71 rfl rfl ?_
    refine own_lstore (pc' := 75) (y := p2) (Ls' := #[.val (.long p0), .second, .val (.long p1), .second, .val (.long p2), .second, .val (.long p3), .second, .val (.long p4), .second, .val (.int p5), .val (.int (3 : Int32)), .val (.long p0), .second, .val (.long p1), .second, .val (.long p2), .second, .val (.long p3), .second, .val (.long p4), .second, .val (.long p0), .second, .val (.long p1), .second, .val (.long p2), .second, .val (.long v28_49), .second, .val (.long v30_55), .second, .unset, .unset, .unset, .unset, .unset, .unset, .unset, .unset, .unset, .unset, .unset, .unset, .unset, .unset, .unset]) C at_73 rfl rfl rfl ?_
    refine own_lload (pc' := 77) C at_75 rfl rfl ?_
    refine own_lstore (pc' := 79) (y := p3) (Ls' := #[.val (.long p0), .second, .val (.long p1), .second, .val (.long p2), .second, .val (.long p3), .second, .val (.long p4), .second, .val (.int p5), .val (.int (3 : Int32)), .val (.long p0), .second, .val (.long p1), .second, .val (.long p2), .second, .val (.long p3), .second, .val (.long p4), .second, .val (.long p0), .second, .val (.long p1), .second, .val (.long p2), .second, .val (.long p3), .second, .val (.long v30_55), .second, .unset, .unset, .unset, .unset, .unset, .unset, .unset, .unset, .unset, .unset, .unset, .unset, .unset, .unset, .unset]) C at_77 rfl rfl rfl ?_
    refine own_lload (pc' := 81) C at_79 rfl rfl ?_
    refine own_lstore (pc' := 83) (y := p4) (Ls' := #[.val (.long p0), .second, .val (.long p1), .second, .val (.long p2), .second, .val (.long p3), .second, .val (.long p4), .second, .val (.int p5), .val (.int (3 : Int32)), .val (.long p0), .second, .val (.long p1), .second, .val (.long p2), .second, .val (.long p3), .second, .val (.long p4), .second, .val (.long p0), .second, .val (.long p1), .second, .val (.long p2), .second, .val (.long p3), .second, .val (.long p4), .second, .unset, .unset, .unset, .unset, .unset, .unset, .unset, .unset, .unset, .unset, .unset, .unset, .unset, .unset, .unset]) C at_81 rfl rfl rfl ?_
    refine own_lload (pc' := 85) C at_83 rfl rfl ?_
    refine own_lload (pc' := 87) C at_85 rfl rfl ?_
    refine own_ladd (pc' := 88) C at_87 rfl rfl ?_
    obtain ⟨v32_88, hv32_88⟩ : ∃ z : Int64, z = (p0 + p0) := ⟨_, rfl⟩
    refine own_lstore (pc' := 90) (y := v32_88) (Ls' := #[.val (.long p0), .second, .val (.long p1), .second, .val (.long p2), .second, .val (.long p3), .second, .val (.long p4), .second, .val (.int p5), .val (.int (3 : Int32)), .val (.long p0), .second, .val (.long p1), .second, .val (.long p2), .second, .val (.long p3), .second, .val (.long p4), .second, .val (.long p0), .second, .val (.long p1), .second, .val (.long p2), .second, .val (.long p3), .second, .val (.long p4), .second, .val (.long v32_88), .second, .unset, .unset, .unset, .unset, .unset, .unset, .unset, .unset, .unset, .unset, .unset, .unset, .unset]) C at_88 hv32_88.symm rfl rfl ?_
    refine own_lload (pc' := 92) C at_90 rfl rfl ?_
    refine own_lload (pc' := 94) C at_92 rfl rfl ?_
    refine own_ladd (pc' := 95) C at_94 rfl rfl ?_
    obtain ⟨v34_95, hv34_95⟩ : ∃ z : Int64, z = (p1 + p1) := ⟨_, rfl⟩
    refine own_lstore (pc' := 97) (y := v34_95) (Ls' := #[.val (.long p0), .second, .val (.long p1), .second, .val (.long p2), .second, .val (.long p3), .second, .val (.long p4), .second, .val (.int p5), .val (.int (3 : Int32)), .val (.long p0), .second, .val (.long p1), .second, .val (.long p2), .second, .val (.long p3), .second, .val (.long p4), .second, .val (.long p0), .second, .val (.long p1), .second, .val (.long p2), .second, .val (.long p3), .second, .val (.long p4), .second, .val (.long v32_88), .second, .val (.long v34_95), .second, .unset, .unset, .unset, .unset, .unset, .unset, .unset, .unset, .unset, .unset, .unset]) C at_95 hv34_95.symm rfl rfl ?_
    refine own_lload (pc' := 99) C at_97 rfl rfl ?_
    refine own_lload (pc' := 101) C at_99 rfl rfl ?_
    refine own_ladd (pc' := 102) C at_101 rfl rfl ?_
    obtain ⟨v36_102, hv36_102⟩ : ∃ z : Int64, z = (p2 + p2) := ⟨_, rfl⟩
    refine own_lstore (pc' := 104) (y := v36_102) (Ls' := #[.val (.long p0), .second, .val (.long p1), .second, .val (.long p2), .second, .val (.long p3), .second, .val (.long p4), .second, .val (.int p5), .val (.int (3 : Int32)), .val (.long p0), .second, .val (.long p1), .second, .val (.long p2), .second, .val (.long p3), .second, .val (.long p4), .second, .val (.long p0), .second, .val (.long p1), .second, .val (.long p2), .second, .val (.long p3), .second, .val (.long p4), .second, .val (.long v32_88), .second, .val (.long v34_95), .second, .val (.long v36_102), .second, .unset, .unset, .unset, .unset, .unset, .unset, .unset, .unset, .unset]) C at_102 hv36_102.symm rfl rfl ?_
    refine own_lload (pc' := 106) C at_104 rfl rfl ?_
    refine own_lload (pc' := 108) C at_106 rfl rfl ?_
    refine own_ladd (pc' := 109) C at_108 rfl rfl ?_
    obtain ⟨v38_109, hv38_109⟩ : ∃ z : Int64, z = (p3 + p3) := ⟨_, rfl⟩
    refine own_lstore (pc' := 111) (y := v38_109) (Ls' := #[.val (.long p0), .second, .val (.long p1), .second, .val (.long p2), .second, .val (.long p3), .second, .val (.long p4), .second, .val (.int p5), .val (.int (3 : Int32)), .val (.long p0), .second, .val (.long p1), .second, .val (.long p2), .second, .val (.long p3), .second, .val (.long p4), .second, .val (.long p0), .second, .val (.long p1), .second, .val (.long p2), .second, .val (.long p3), .second, .val (.long p4), .second, .val (.long v32_88), .second, .val (.long v34_95), .second, .val (.long v36_102), .second, .val (.long v38_109), .second, .unset, .unset, .unset, .unset, .unset, .unset, .unset]) C at_109 hv38_109.symm rfl rfl ?_
    refine own_lload (pc' := 113) C at_111 rfl rfl ?_
    refine own_lload (pc' := 115) C at_113 rfl rfl ?_
    refine own_ladd (pc' := 116) C at_115 rfl rfl ?_
    obtain ⟨v40_116, hv40_116⟩ : ∃ z : Int64, z = (p4 + p4) := ⟨_, rfl⟩
    refine own_lstore (pc' := 118) (y := v40_116) (Ls' := #[.val (.long p0), .second, .val (.long p1), .second, .val (.long p2), .second, .val (.long p3), .second, .val (.long p4), .second, .val (.int p5), .val (.int (3 : Int32)), .val (.long p0), .second, .val (.long p1), .second, .val (.long p2), .second, .val (.long p3), .second, .val (.long p4), .second, .val (.long p0), .second, .val (.long p1), .second, .val (.long p2), .second, .val (.long p3), .second, .val (.long p4), .second, .val (.long v32_88), .second, .val (.long v34_95), .second, .val (.long v36_102), .second, .val (.long v38_109), .second, .val (.long v40_116), .second, .unset, .unset, .unset, .unset, .unset]) C at_116 hv40_116.symm rfl rfl ?_
    refine own_iconst (pc' := 119) (v := (5 : Int32)) C at_118 own_ki_5 rfl ?_
    refine own_newJ (pc' := 121) (len := 5) (cap := 5) C at_119 (hw _ (List.mem_of_getElem? (i := 0) rfl)) (by decide) rfl (by decide) (by decide) (by decide) (by decide) rfl ?_
    intro h1 b1 g1 X1 A_b1
    have g_b1 : n0 ≤ b1 := g1 ▸ Z_
    replace Z_ := Nat.le_trans Z_ X1.1
    replace A_b1 : AJ Z h1 b1 [(0 : Int64), (0 : Int64), (0 : Int64), (0 : Int64), (0 : Int64)] := A_b1
    refine own_dup (pc' := 122) C at_121 rfl rfl ?_
    refine own_iconst (pc' := 123) (v := (0 : Int32)) C at_122 own_ki_0 rfl ?_
    refine own_lload (pc' := 125) C at_123 rfl rfl ?_
    refine own_lastore (pc' := 126) (i := 0) (ys := [p0, (0 : Int64), (0 : Int64), (0 : Int64), (0 : Int64)]) C at_125 A_b1 (by decide) rfl (Nat.le_of_ble_eq_true rfl) rfl g_b1 rfl ?_
    intro h2 W2 A2_
    replace A_b1 := A2_
    replace Z_ : n0 ≤ _ := Nat.le_trans Z_ (Nat.le_of_eq W2.size.symm)
    refine own_dup (pc' := 127) C at_126 rfl rfl ?_
    refine own_iconst (pc' := 128) (v := (1 : Int32)) C at_127 own_ki_1 rfl ?_
    refine own_lload (pc' := 130) C at_128 rfl rfl ?_
    refine own_lastore (pc' := 131) (i := 1) (ys := [p0, p1, (0 : Int64), (0 : Int64), (0 : Int64)]) C at_130 A_b1 (by decide) rfl (Nat.le_of_ble_eq_true rfl) rfl g_b1 rfl ?_
    intro h3 W3 A3_
    replace A_b1 := A3_
    replace Z_ : n0 ≤ _ := Nat.le_trans Z_ (Nat.le_of_eq W3.size.symm)
    refine own_dup (pc' := 132) C at_131 rfl rfl ?_
    refine own_iconst (pc' := 133) (v := (2 : Int32)) C at_132 own_ki_2 rfl ?_
    refine own_lload (pc' := 135) C at_133 rfl rfl ?_
    refine own_lastore (pc' := 136) (i := 2) (ys := [p0, p1, p2, (0 : Int64), (0 : Int64)]) C at_135 A_b1 (by decide) rfl (Nat.le_of_ble_eq_true rfl) rfl g_b1 rfl ?_
    intro h4 W4 A4_
    replace A_b1 := A4_
    replace Z_ : n0 ≤ _ := Nat.le_trans Z_ (Nat.le_of_eq W4.size.symm)
    refine own_dup (pc' := 137) C at_136 rfl rfl ?_
    refine own_iconst (pc' := 138) (v := (3 : Int32)) C at_137 own_ki_3 rfl ?_
    refine own_lload (pc' := 140) C at_138 rfl rfl ?_
    refine own_lastore (pc' := 141) (i := 3) (ys := [p0, p1, p2, p3, (0 : Int64)]) C at_140 A_b1 (by decide) rfl (Nat.le_of_ble_eq_true rfl) rfl g_b1 rfl ?_
    intro h5 W5 A5_
    replace A_b1 := A5_
    replace Z_ : n0 ≤ _ := Nat.le_trans Z_ (Nat.le_of_eq W5.size.symm)
    refine own_dup (pc' := 142) C at_141 rfl rfl ?_
    refine own_iconst (pc' := 143) (v := (4 : Int32)) C at_142 own_ki_4 rfl ?_
    refine own_lload (pc' := 145) C at_143 rfl rfl ?_
    refine own_lastore (pc' := 146) (i := 4) (ys := [p0, p1, p2, p3, p4]) C at_145 A_b1 (by decide) rfl (Nat.le_of_ble_eq_true rfl) rfl g_b1 rfl ?_
    intro h6 W6 A6_
    replace A_b1 := A6_
    replace Z_ : n0 ≤ _ := Nat.le_trans Z_ (Nat.le_of_eq W6.size.symm)
    refine own_astore (pc' := 148) (Ls' := #[.val (.long p0), .second, .val (.long p1), .second, .val (.long p2), .second, .val (.long p3), .second, .val (.long p4), .second, .val (.int p5), .val (.int (3 : Int32)), .val (.long p0), .second, .val (.long p1), .second, .val (.long p2), .second, .val (.long p3), .second, .val (.long p4), .second, .val (.long p0), .second, .val (.long p1), .second, .val (.long p2), .second, .val (.long p3), .second, .val (.long p4), .second, .val (.long v32_88), .second, .val (.long v34_95), .second, .val (.long v36_102), .second, .val (.long v38_109), .second, .val (.long v40_116), .second, .val (.ref b1), .unset, .unset, .unset, .unset]) C at_146 rfl rfl rfl ?_
    refine own_iconst (pc' := 149) (v := (5 : Int32)) C at_148 own_ki_5 rfl ?_
    refine own_newJ (pc' := 151) (len := 5) (cap := 5) C at_149 (hw _ (List.mem_of_getElem? (i := 0) rfl)) (by decide) rfl (by decide) (by decide) (by decide) (by decide) rfl ?_
    intro h7 b7 g7 X7 A_b7
    have ne_b1_b7 : b1 ≠ b7 := Nat.ne_of_lt (g7 ▸ A_b1.lt)
    replace A_b1 := A_b1.ext X7
    have g_b7 : n0 ≤ b7 := g7 ▸ Z_
    replace Z_ := Nat.le_trans Z_ X7.1
    replace A_b7 : AJ Z h7 b7 [(0 : Int64), (0 : Int64), (0 : Int64), (0 : Int64), (0 : Int64)] := A_b7
    refine own_dup (pc' := 152) C at_151 rfl rfl ?_
    refine own_iconst (pc' := 153) (v := (0 : Int32)) C at_152 own_ki_0 rfl ?_
    refine own_lload (pc' := 155) C at_153 rfl rfl ?_
    refine own_lastore (pc' := 156) (i := 0) (ys := [p0, (0 : Int64), (0 : Int64), (0 : Int64), (0 : Int64)]) C at_155 A_b7 (by decide) rfl (Nat.le_of_ble_eq_true rfl) rfl g_b7 rfl ?_
    intro h8 W8 A8_
    replace A_b1 := A_b1.other W8 ne_b1_b7
    replace A_b7 := A8_
    replace Z_ : n0 ≤ _ := Nat.le_trans Z_ (Nat.le_of_eq W8.size.symm)
    refine own_dup (pc' := 157) C at_156 rfl rfl ?_
    refine own_iconst (pc' := 158) (v := (1 : Int32)) C at_157 own_ki_1 rfl ?_
    refine own_lload (pc' := 160) C at_158 rfl rfl ?_
    refine own_lastore (pc' := 161) (i := 1) (ys := [p0, p1, (0 : Int64), (0 : Int64), (0 : Int64)]) C at_160 A_b7 (by decide) rfl (Nat.le_of_ble_eq_true rfl) rfl g_b7 rfl ?_
    intro h9 W9 A9_
    replace A_b1 := A_b1.other W9 ne_b1_b7
    replace A_b7 := A9_
    replace Z_ : n0 ≤ _ := Nat.le_trans Z_ (Nat.le_of_eq W9.size.symm)
    refine own_dup (pc' := 162) C at_161 rfl rfl ?_
    refine own_iconst (pc' := 163) (v := (2 : Int32)) C at_162 own_ki_2 rfl ?_
    refine own_lload (pc' := 165) C at_163 rfl rfl ?_
    refine own_lastore (pc' := 166) (i := 2) (ys := [p0, p1, p2, (0 : Int64), (0 : Int64)]) C at_165 A_b7 (by decide) rfl (Nat.le_of_ble_eq_true rfl) rfl g_b7 rfl ?_
    intro h10 W10 A10_
    replace A_b1 := A_b1.other W10 ne_b1_b7
    replace A_b7 := A10_
    replace Z_ : n0 ≤ _ := Nat.le_trans Z_ (Nat.le_of_eq W10.size.symm)
    refine own_dup (pc' := 167) C at_166 rfl rfl ?_
    refine own_iconst (pc' := 168) (v := (3 : Int32)) C at_167 own_ki_3 rfl ?_
    refine own_lload (pc' := 170) C at_168 rfl rfl ?_
    refine own_lastore (pc' := 171) (i := 3) (ys := [p0, p1, p2, p3, (0 : Int64)]) C at_170 A_b7 (by decide) rfl (Nat.le_of_ble_eq_true rfl) rfl g_b7 rfl ?_
    intro h11 W11 A11_
    replace A_b1 := A_b1.other W11 ne_b1_b7
    replace A_b7 := A11_
    replace Z_ : n0 ≤ _ := Nat.le_trans Z_ (Nat.le_of_eq W11.size.symm)
    refine own_dup (pc' := 172) C at_171 rfl rfl ?_
    refine own_iconst (pc' := 173) (v := (4 : Int32)) C at_172 own_ki_4 rfl ?_
    refine own_lload (pc' := 175) C at_173 rfl rfl ?_
    refine own_lastore (pc' := 176) (i := 4) (ys := [p0, p1, p2, p3, p4]) C at_175 A_b7 (by decide) rfl (Nat.le_of_ble_eq_true rfl) rfl g_b7 rfl ?_
    intro h12 W12 A12_
    replace A_b1 := A_b1.other W12 ne_b1_b7
    replace A_b7 := A12_
    replace Z_ : n0 ≤ _ := Nat.le_trans Z_ (Nat.le_of_eq W12.size.symm)
    refine own_astore (pc' := 178) (Ls' := #[.val (.long p0), .second, .val (.long p1), .second, .val (.long p2), .second, .val (.long p3), .second, .val (.long p4), .second, .val (.int p5), .val (.int (3 : Int32)), .val (.long p0), .second, .val (.long p1), .second, .val (.long p2), .second, .val (.long p3), .second, .val (.long p4), .second, .val (.long p0), .second, .val (.long p1), .second, .val (.long p2), .second, .val (.long p3), .second, .val (.long p4), .second, .val (.long v32_88), .second, .val (.long v34_95), .second, .val (.long v36_102), .second, .val (.long v38_109), .second, .val (.long v40_116), .second, .val (.ref b1), .val (.ref b7), .unset, .unset, .unset]) C at_176 rfl rfl rfl ?_
    refine own_iconst (pc' := 179) (v := (5 : Int32)) C at_178 own_ki_5 rfl ?_
    refine own_newJ (pc' := 181) (len := 5) (cap := 5) C at_179 (hw _ (List.mem_of_getElem? (i := 0) rfl)) (by decide) rfl (by decide) (by decide) (by decide) (by decide) rfl ?_
    intro h13 b13 g13 X13 A_b13
    have ne_b1_b13 : b1 ≠ b13 := Nat.ne_of_lt (g13 ▸ A_b1.lt)
    have ne_b7_b13 : b7 ≠ b13 := Nat.ne_of_lt (g13 ▸ A_b7.lt)
    replace A_b1 := A_b1.ext X13
    replace A_b7 := A_b7.ext X13
    have g_b13 : n0 ≤ b13 := g13 ▸ Z_
    replace Z_ := Nat.le_trans Z_ X13.1
    replace A_b13 : AJ Z h13 b13 [(0 : Int64), (0 : Int64), (0 : Int64), (0 : Int64), (0 : Int64)] := A_b13
    refine own_dup (pc' := 182) C at_181 rfl rfl ?_
    refine own_iconst (pc' := 183) (v := (0 : Int32)) C at_182 own_ki_0 rfl ?_
    refine own_lloadN (pc' := 184) C at_183 rfl rfl ?_
    refine own_lastore (pc' := 185) (i := 0) (ys := [p1, (0 : Int64), (0 : Int64), (0 : Int64), (0 : Int64)]) C at_184 A_b13 (by decide) rfl (Nat.le_of_ble_eq_true rfl) rfl g_b13 rfl ?_
    intro h14 W14 A14_
    replace A_b1 := A_b1.other W14 ne_b1_b13
    replace A_b7 := A_b7.other W14 ne_b7_b13
    replace A_b13 := A14_
    replace Z_ : n0 ≤ _ := Nat.le_trans Z_ (Nat.le_of_eq W14.size.symm)
    refine own_dup (pc' := 186) C at_185 rfl rfl ?_
    refine own_iconst (pc' := 187) (v := (1 : Int32)) C at_186 own_ki_1 rfl ?_
    refine own_lload (pc' := 189) C at_187 rfl rfl ?_
    refine own_lastore (pc' := 190) (i := 1) (ys := [p1, p2, (0 : Int64), (0 : Int64), (0 : Int64)]) C at_189 A_b13 (by decide) rfl (Nat.le_of_ble_eq_true rfl) rfl g_b13 rfl ?_
    intro h15 W15 A15_
    replace A_b1 := A_b1.other W15 ne_b1_b13
    replace A_b7 := A_b7.other W15 ne_b7_b13
    replace A_b13 := A15_
    replace Z_ : n0 ≤ _ := Nat.le_trans Z_ (Nat.le_of_eq W15.size.symm)
    refine own_dup (pc' := 191) C at_190 rfl rfl ?_
    refine own_iconst (pc' := 192) (v := (2 : Int32)) C at_191 own_ki_2 rfl ?_
    refine own_lload (pc' := 194) C at_192 rfl rfl ?_
    refine own_lastore (pc' := 195) (i := 2) (ys := [p1, p2, p3, (0 : Int64), (0 : Int64)]) C at_194 A_b13 (by decide) rfl (Nat.le_of_ble_eq_true rfl) rfl g_b13 rfl ?_
    intro h16 W16 A16_
    replace A_b1 := A_b1.other W16 ne_b1_b13
    replace A_b7 := A_b7.other W16 ne_b7_b13
    replace A_b13 := A16_
    replace Z_ : n0 ≤ _ := Nat.le_trans Z_ (Nat.le_of_eq W16.size.symm)
    refine own_dup (pc' := 196) C at_195 rfl rfl ?_
    refine own_iconst (pc' := 197) (v := (3 : Int32)) C at_196 own_ki_3 rfl ?_
    refine own_lload (pc' := 199) C at_197 rfl rfl ?_
    refine own_lastore (pc' := 200) (i := 3) (ys := [p1, p2, p3, p4, (0 : Int64)]) C at_199 A_b13 (by decide) rfl (Nat.le_of_ble_eq_true rfl) rfl g_b13 rfl ?_
    intro h17 W17 A17_
    replace A_b1 := A_b1.other W17 ne_b1_b13
    replace A_b7 := A_b7.other W17 ne_b7_b13
    replace A_b13 := A17_
    replace Z_ : n0 ≤ _ := Nat.le_trans Z_ (Nat.le_of_eq W17.size.symm)
    refine own_dup (pc' := 201) C at_200 rfl rfl ?_
    refine own_iconst (pc' := 202) (v := (4 : Int32)) C at_201 own_ki_4 rfl ?_
    refine own_lloadN (pc' := 203) C at_202 rfl rfl ?_
    refine own_lastore (pc' := 204) (i := 4) (ys := [p1, p2, p3, p4, p0]) C at_203 A_b13 (by decide) rfl (Nat.le_of_ble_eq_true rfl) rfl g_b13 rfl ?_
    intro h18 W18 A18_
    replace A_b1 := A_b1.other W18 ne_b1_b13
    replace A_b7 := A_b7.other W18 ne_b7_b13
    replace A_b13 := A18_
    replace Z_ : n0 ≤ _ := Nat.le_trans Z_ (Nat.le_of_eq W18.size.symm)
    refine own_astore (pc' := 206) (Ls' := #[.val (.long p0), .second, .val (.long p1), .second, .val (.long p2), .second, .val (.long p3), .second, .val (.long p4), .second, .val (.int p5), .val (.int (3 : Int32)), .val (.long p0), .second, .val (.long p1), .second, .val (.long p2), .second, .val (.long p3), .second, .val (.long p4), .second, .val (.long p0), .second, .val (.long p1), .second, .val (.long p2), .second, .val (.long p3), .second, .val (.long p4), .second, .val (.long v32_88), .second, .val (.long v34_95), .second, .val (.long v36_102), .second, .val (.long v38_109), .second, .val (.long v40_116), .second, .val (.ref b1), .val (.ref b7), .val (.ref b13), .unset, .unset]) C at_204 rfl rfl rfl ?_
    refine own_aload (pc' := 208) C at_206 rfl rfl rfl ?_
    refine own_astore (pc' := 210) (Ls' := #[.val (.long p0), .second, .val (.long p1), .second, .val (.long p2), .second, .val (.long p3), .second, .val (.long p4), .second, .val (.int p5), .val (.int (3 : Int32)), .val (.long p0), .second, .val (.long p1), .second, .val (.long p2), .second, .val (.long p3), .second, .val (.long p4), .second, .val (.long p0), .second, .val (.long p1), .second, .val (.long p2), .second, .val (.long p3), .second, .val (.long p4), .second, .val (.long v32_88), .second, .val (.long v34_95), .second, .val (.long v36_102), .second, .val (.long v38_109), .second, .val (.long v40_116), .second, .val (.ref b1), .val (.ref b7), .val (.ref b13), .val (.ref b13), .unset]) C at_208 rfl rfl rfl ?_
    refine own_iload (pc' := 212) C at_210 rfl rfl ?_
    refine own_iconst (pc' := 213) (v := (1 : Int32)) C at_212 own_ki_1 rfl ?_
    refine own_icmp_ne (pt := 223) (pf := 216) C at_213 (by decide) (by decide) rfl (fun _ => ?_) (fun q => absurd q (by decide))
    refine own_iload (pc' := 225) C at_223 rfl rfl ?_
    refine own_iconst (pc' := 226) (v := (2 : Int32)) C at_225 own_ki_2 rfl ?_
    refine own_icmp_ne (pt := 236) (pf := 229) C at_226 (by decide) (by decide) rfl (fun _ => ?_) (fun q => absurd q (by decide))
    refine own_iload (pc' := 238) C at_236 rfl rfl ?_
    refine own_iconst (pc' := 239) (v := (3 : Int32)) C at_238 own_ki_3 rfl ?_
    refine own_icmp_ne (pt := 250) (pf := 242) C at_239 (by decide) (by decide) rfl (fun q => absurd (by decide) q) (fun _ => ?_)
    refine own_aload (pc' := 244) C at_242 rfl rfl rfl ?_
    refine own_astore (pc' := 246) (Ls' := #[.val (.long p0), .second, .val (.long p1), .second, .val (.long p2), .second, .val (.long p3), .second, .val (.long p4), .second, .val (.int p5), .val (.int (3 : Int32)), .val (.long p0), .second, .val (.long p1), .second, .val (.long p2), .second, .val (.long p3), .second, .val (.long p4), .second, .val (.long p0), .second, .val (.long p1), .second, .val (.long p2), .second, .val (.long p3), .second, .val (.long p4), .second, .val (.long v32_88), .second, .val (.long v34_95), .second, .val (.long v36_102), .second, .val (.long v38_109), .second, .val (.long v40_116), .second, .val (.ref b1), .val (.ref b1), .val (.ref b13), .val (.ref b13), .unset]) C at_244 rfl rfl rfl ?_
    refine own_aload (pc' := 248) C at_246 rfl rfl rfl ?_
    refine own_astore (pc' := 250) (Ls' := #[.val (.long p0), .second, .val (.long p1), .second, .val (.long p2), .second, .val (.long p3), .second, .val (.long p4), .second, .val (.int p5), .val (.int (3 : Int32)), .val (.long p0), .second, .val (.long p1), .second, .val (.long p2), .second, .val (.long p3), .second, .val (.long p4), .second, .val (.long p0), .second, .val (.long p1), .second, .val (.long p2), .second, .val (.long p3), .second, .val (.long p4), .second, .val (.long v32_88), .second, .val (.long v34_95), .second, .val (.long v36_102), .second, .val (.long v38_109), .second, .val (.long v40_116), .second, .val (.ref b1), .val (.ref b1), .val (.ref b13), .val (.ref b1), .unset]) C at_248 rfl rfl rfl ?_
    refine own_aload (pc' := 252) C at_250 rfl rfl rfl ?_
    refine own_aload (pc' := 254) C at_252 rfl rfl rfl ?_
    refine own_aload (pc' := 256) C at_254 rfl rfl rfl ?_
    refine own_callS (pc' := 259) (wL := 0) (argsL := [(.ref b1), (.ref b1), (.ref b1)]) (rest := []) C (own_add3 l Z a0 hw b1 p0 p1 p2 p3 p4 h18 n0 Z_ A_b1 g_b1 ) at_256 (hw _ (List.mem_of_getElem? (i := 1) rfl)) (hw _ (List.mem_of_getElem? (i := 2) rfl)) (hw _ (List.mem_of_getElem? (i := 3) rfl)) (hw _ (List.mem_of_getElem? (i := 4) rfl)) (by decide) (by decide) (by decide) rfl (lenOf pd1 rfl) rfl rfl (Nat.le_of_eq rfl) (by decide) (by decide) rfl ?_
    rintro _ h19 ⟨rfl, K19, A19_⟩
    replace A_b7 := A_b7.keep K19 (ninS (Ne.symm ne_b1_b7) nin0)
    replace A_b13 := A_b13.keep K19 (ninS (Ne.symm ne_b1_b13) nin0)
    replace Z_ := Nat.le_trans Z_ K19.1
    replace A_b1 := A19_
    show Wp p l e _ s m _ below meth c n0 _ h19 (((0 + 1) + 1) + 1) (((0 + 5) + 5) + 5) (mkF m 259 #[.val (.long p0), .second, .val (.long p1), .second, .val (.long p2), .second, .val (.long p3), .second, .val (.long p4), .second, .val (.int p5), .val (.int (3 : Int32)), .val (.long p0), .second, .val (.long p1), .second, .val (.long p2), .second, .val (.long p3), .second, .val (.long p4), .second, .val (.long p0), .second, .val (.long p1), .second, .val (.long p2), .second, .val (.long p3), .second, .val (.long p4), .second, .val (.long v32_88), .second, .val (.long v34_95), .second, .val (.long v36_102), .second, .val (.long v38_109), .second, .val (.long v40_116), .second, .val (.ref b1), .val (.ref b1), .val (.ref b13), .val (.ref b1), .unset] [])
    refine own_aload (pc' := 261) C at_259 rfl rfl rfl ?_
    refine own_iconst (pc' := 262) (v := (0 : Int32)) C at_261 own_ki_0 rfl ?_
    refine own_laload (pc' := 263) (v := (p0 + p0)) (i := 0) C at_262 A_b1 (by decide) rfl rfl rfl ?_
    refine own_lload (pc' := 265) C at_263 rfl rfl ?_
    refine own_lcmp_ne (pt := 313) (pf := 269) C at_265 rfl at_266 (by decide) (by decide) rfl (fun q => absurd hv32_88.symm q) (fun _ => ?_)
    refine own_aload (pc' := 271) C at_269 rfl rfl rfl ?_
    refine own_iconst (pc' := 272) (v := (1 : Int32)) C at_271 own_ki_1 rfl ?_
    refine own_laload (pc' := 273) (v := (p1 + p1)) (i := 1) C at_272 A_b1 (by decide) rfl rfl rfl ?_
    refine own_lload (pc' := 275) C at_273 rfl rfl ?_
    refine own_lcmp_ne (pt := 313) (pf := 279) C at_275 rfl at_276 (by decide) (by decide) rfl (fun q => absurd hv34_95.symm q) (fun _ => ?_)
    refine own_aload (pc' := 281) C at_279 rfl rfl rfl ?_
    refine own_iconst (pc' := 282) (v := (2 : Int32)) C at_281 own_ki_2 rfl ?_
    refine own_laload (pc' := 283) (v := (p2 + p2)) (i := 2) C at_282 A_b1 (by decide) rfl rfl rfl ?_
    refine own_lload (pc' := 285) C at_283 rfl rfl ?_
    refine own_lcmp_ne (pt := 313) (pf := 289) C at_285 rfl at_286 (by decide) (by decide) rfl (fun q => absurd hv36_102.symm q) (fun _ => ?_)
    refine own_aload (pc' := 291) C at_289 rfl rfl rfl ?_
    refine own_iconst (pc' := 292) (v := (3 : Int32)) C at_291 own_ki_3 rfl ?_
    refine own_laload (pc' := 293) (v := (p3 + p3)) (i := 3) C at_292 A_b1 (by decide) rfl rfl rfl ?_
    refine own_lload (pc' := 295) C at_293 rfl rfl ?_
    refine own_lcmp_ne (pt := 313) (pf := 299) C at_295 rfl at_296 (by decide) (by decide) rfl (fun q => absurd hv38_109.symm q) (fun _ => ?_)
    refine own_aload (pc' := 301) C at_299 rfl rfl rfl ?_
    refine own_iconst (pc' := 302) (v := (4 : Int32)) C at_301 own_ki_4 rfl ?_
    refine own_laload (pc' := 303) (v := (p4 + p4)) (i := 4) C at_302 A_b1 (by decide) rfl rfl rfl ?_
    refine own_lload (pc' := 305) C at_303 rfl rfl ?_
    refine own_lcmp_ne (pt := 313) (pf := 309) C at_305 rfl at_306 (by decide) (by decide) rfl (fun q => absurd hv40_116.symm q) (fun _ => ?_)
    refine own_iconst (pc' := 310) (v := (1 : Int32)) C at_309 own_ki_1 rfl ?_
    refine own_goto (pc' := 314) C at_310 (by decide) (by decide) ?_
    refine own_istore (pc' := 316) (y := (1 : Int32)) (Ls' := #[.val (.long p0), .second, .val (.long p1), .second, .val (.long p2), .second, .val (.long p3), .second, .val (.long p4), .second, .val (.int p5), .val (.int (3 : Int32)), .val (.long p0), .second, .val (.long p1), .second, .val (.long p2), .second, .val (.long p3), .second, .val (.long p4), .second, .val (.long p0), .second, .val (.long p1), .second, .val (.long p2), .second, .val (.long p3), .second, .val (.long p4), .second, .val (.long v32_88), .second, .val (.long v34_95), .second, .val (.long v36_102), .second, .val (.long v38_109), .second, .val (.long v40_116), .second, .val (.ref b1), .val (.ref b1), .val (.ref b13), .val (.ref b1), .val (.int (1 : Int32))]) C at_314 rfl rfl rfl ?_
    refine own_iload (pc' := 318) C at_316 rfl rfl ?_
    refine own_if_eq (pt := 327) (pf := 321) C at_318 (by decide) (by decide) rfl (fun q => absurd q (by decide)) (fun _ => ?_)
    refine own_iload (pc' := 323) C at_321 rfl rfl ?_
    refine own_iconst (pc' := 324) (v := (2 : Int32)) C at_323 own_ki_2 rfl ?_
    refine own_icmp_ne (pt := 389) (pf := 327) C at_324 (by decide) (by decide) rfl (fun _ => ?_) (fun q => absurd q (by decide))
    refine own_iload (pc' := 391) C at_389 rfl rfl ?_
    refine own_if_eq (pt := 400) (pf := 394) C at_391 (by decide) (by decide) rfl (fun q => absurd q (by decide)) (fun _ => ?_)
    refine own_iload (pc' := 396) C at_394 rfl rfl ?_
    refine own_iconst (pc' := 397) (v := (1 : Int32)) C at_396 own_ki_1 rfl ?_
    refine own_icmp_ne (pt := 462) (pf := 400) C at_397 (by decide) (by decide) rfl (fun _ => ?_) (fun q => absurd q (by decide))
    refine own_iload (pc' := 464) C at_462 rfl rfl ?_
    refine own_zret C at_464 (by decide) (by decide) (Or.inr rfl) ?_
    exact rfl
set_option maxRecDepth 65536 in
set_option maxHeartbeats 40000000 in
theorem comes_1 {Post : Tables → Env → Array Value → State → Outcome → State → Prop} (hpost : ∀ tb e args s v u, (limb_1_1.after args s (.returned v) u = true ∧ limb_1_2.after args s (.returned v) u = true ∧ True) → FrameEnd s (.returned v) u (Jvm.fieldLocs frame_1_writes args s ++ Jvm.arrayLocs frame_1_arrays args s ++ Jvm.staticLocs frame_1_statics s) 16 128 → Post tb e args s (.returned v) u) :
    ArmFor flags0 classFile x code maxLocals ret World_1 tables_1 room_1 Calls_1 rest_1 Pre_1 Post := by
  intro l hfl _ _ p e ha hc hk s m args below hf hA hF happ hP
  obtain ⟨hcalls, hrest, hpre⟩ := hP
  obtain ⟨-, -, -, hnamed, -, -, -, hat⟩ := (Spec.applies_iff hf).mp happ
  obtain ⟨hg, hn⟩ := and_e (Cond.before_iff.mp (show (Jvm.Cond.and given_1 narrow_1).before args s = true from hpre))
  obtain ⟨hcount, q0⟩ := and_e hg
  obtain ⟨r0, q1⟩ := and_e q0
  obtain ⟨r1, q2⟩ := and_e q1
  obtain ⟨r2, q3⟩ := and_e q2
  obtain ⟨r3, q4⟩ := and_e q3
  obtain ⟨r4, q5⟩ := and_e q4
  obtain ⟨w0, w1, w2, w3, w4, w5, rfl⟩ : ∃ w0 w1 w2 w3 w4 w5 : Value, args = #[w0, w1, w2, w3, w4, w5] := by
    have hs : args.size = 6 := by simpa [Cond.value, given_1] using hcount
    obtain ⟨L⟩ := args
    match L, hs with
    | [w0, w1, w2, w3, w4, w5], _ => exact ⟨w0, w1, w2, w3, w4, w5, rfl⟩
  have hw := fun d (hd : d ∈ tables_1) => atoms_spec (ws := Jvm.Cond.code x code maxLocals ret :: tables_1) hat d (List.mem_cons_of_mem _ hd)
  obtain ⟨i0, e0⟩ := isL_v r0
  obtain rfl : w0 = (.long i0) := Option.some.inj e0
  obtain ⟨i1, e1⟩ := isL_v r1
  obtain rfl : w1 = (.long i1) := Option.some.inj e1
  obtain ⟨i2, e2⟩ := isL_v r2
  obtain rfl : w2 = (.long i2) := Option.some.inj e2
  obtain ⟨i3, e3⟩ := isL_v r3
  obtain rfl : w3 = (.long i3) := Option.some.inj e3
  obtain ⟨i4, e4⟩ := isL_v r4
  obtain rfl : w4 = (.long i4) := Option.some.inj e4
  obtain ⟨i5, e5⟩ := is_v q5
  obtain rfl : w5 = (.int i5) := Option.some.inj e5
  obtain ⟨n, o, h1, h2, h3, _, L, rfl, ⟨rfl, N⟩, hq⟩ := own_law l s _ hw tables_1 i0 i1 i2 i3 i4 i5  s.heap s.heap.size (Nat.le_refl _)  p e ha hc hk s m _ below hf ((Spec.applies_iff_loose hf).mp happ).1 ⟨rfl, State.Warmed39.refl s, rfl⟩ trivial
  refine ⟨n, _, h1, h2, h3, hpost _ _ _ _ _ _ ⟨Cond.after_iff.mpr rfl, Cond.after_iff.mpr (eq_i res_at (Term.int_eval (1)) rfl), trivial⟩ ⟨hq.1, hq.2.1, (hq.2.2.sift fun y hy => Or.inr (N y hy)).mono (by decide) (by decide)⟩⟩
theorem main_1_1 : Claimed_1_1 := comes_1 fun _ _ _ _ _ _ h hF => ⟨h.1, hF⟩
theorem main_1_2 : Claimed_1_2 := comes_1 fun _ _ _ _ _ _ h hF => ⟨h.2.1, hF⟩
end Jvm.Pilot.@@N@@
namespace Jvm.Pilot.@@N@@
open Jvm Jvm.ClassFile Sem Op Lib Jvm.Free Jvm.Stand Jvm.Pilot.@@N@@.Jvm.D
/-! MADE BY PROGRAM (witnessworld.py) out of the Statement's table words and the real class files: 11 classes; the members and pool entries that the words name. The judged class is class 1, her method 1. -/
namespace start1
open Jvm.ClassFile
def u (s : String) : CpInfo := .utf8 (stringToUtf16 s)
/-- a pool by its gaps: so many unusable entries, then the entry; so many at the end -/
def gap : Nat → List CpInfo → List CpInfo
  | 0, r => r
  | n + 1, r => .unusable :: gap n r
def poolList (es : List (Nat × CpInfo)) (last : Nat) : List CpInfo := es.foldr (fun e r => gap e.1 (e.2 :: r)) (gap last [])
def pool (es : List (Nat × CpInfo)) (last : Nat) : Array CpInfo := ⟨poolList es last⟩
def fileOf (pool : Array CpInfo) (this : Nat) (attrs : Array Attribute := #[]) (ms : Array MethodInfo := #[]) (fl : Nat := 33) (sup : Nat := 0) (ifs : Array Nat := #[]) (fds : Array FieldInfo := #[]) : ClassFile where
  minorVersion := 0
  majorVersion := 65
  constantPool := pool
  accessFlags := fl
  thisClass := this
  superClass := sup
  interfaces := ifs
  fields := fds
  methods := ms
  attributes := attrs
def plain (name : String) (sup : Option ClassId) : Class where
  name := name
  kind := .ordinary
  loader := none
  accessFlags := 33
  super := sup
  interfaces := #[]
  cf := none
  fields := #[]
  methods := #[]
  instanceTypes := #[]
  staticTypes := #[]
  resolved := #[]
  callSites := []
  init := .initialized
  statics := none
  mirror := none

def pool0 : Array CpInfo := pool [(5, u "<init>"), (0, u "()V"), (1, .class_ 10), (1, u "java/lang/Object")] 113

def k0m0 : Method := { name := "<init>", desc := "()V", sig := { parameters := [], returnType := none }, accessFlags := 1, code := none }
/-- java/lang/Object -/
def k0 : Class := { plain "java/lang/Object" none with
  accessFlags := 33
  interfaces := #[]
  cf := some (fileOf pool0 8 #[] #[{ accessFlags := 1, nameIndex := 5, descriptorIndex := 6, attributes := #[] }] 33 0 #[] #[])
  fields := #[]
  methods := #[k0m0]
  instanceTypes := #[]
  staticTypes := #[]
  resolved := Array.replicate 124 none
  statics := none }

def pool1 : Array CpInfo := pool [(2, .class_ 4), (1, u "java/lang/Object"), (0, u "<init>"), (0, u "()V"), (0, .methodref 8 9), (0, .class_ 10), (0, .nameAndType 11 12), (0, u "com/example/libsworn/libsworn/P256Field"), (0, u "add"), (0, u "([J[J[J)V"), (0, .class_ 14), (0, u "com/example/libsworn/libsworn/P256FieldAddPinLaw"), (2, u "law"), (0, u "(JJJJJI)Z")] 5

def k1m0 : Method := { name := "<init>", desc := "()V", sig := { parameters := [], returnType := none }, accessFlags := 1, code := none }
def k1c1 : Code := { maxStack := 5, maxLocals := 47, code := code, exceptionTable := #[], attributes := #[] }
def k1m1 : Method := { name := "law", desc := "(JJJJJI)Z", sig := { parameters := [.long, .long, .long, .long, .long, .int], returnType := some .boolean }, accessFlags := 9, code := some k1c1 }
/-- com/example/libsworn/libsworn/P256FieldAddPinLaw -/
def k1 : Class := { plain "com/example/libsworn/libsworn/P256FieldAddPinLaw" (some 0) with
  accessFlags := 49
  interfaces := #[]
  cf := some (fileOf pool1 13 #[] #[{ accessFlags := 1, nameIndex := 5, descriptorIndex := 6, attributes := #[] }, { accessFlags := 9, nameIndex := 17, descriptorIndex := 18, attributes := #[] }] 49 2 #[] #[])
  fields := #[]
  methods := #[k1m0, k1m1]
  instanceTypes := #[]
  staticTypes := #[]
  resolved := Array.replicate 24 none
  statics := none }

def pool2 : Array CpInfo := pool [(1, .class_ 2), (0, u "com/example/libsworn/libsworn/P256Field"), (1, .class_ 6), (1, u "java/lang/Object"), (0, u "<init>"), (0, u "()V"), (6, u "R_SQUARED"), (0, u "[J"), (3, u "([J[J[J)V"), (4, u "PRIME_LIMBS"), (34, u "ONE"), (0, u "Ljava/math/BigInteger;"), (9, u "add"), (2, u "PRIME"), (5, u "LIMBS"), (0, u "I"), (2, u "RADIX_BITS"), (1, u "LIMB_MASK"), (0, u "J"), (0, u "MONTGOMERY_BITS"), (1, u "TOP_TERMS")] 20

def k2m0 : Method := { name := "<init>", desc := "()V", sig := { parameters := [], returnType := none }, accessFlags := 2, code := none }
def k2c1 : Code := { maxStack := 6, maxLocals := 4, code := prog_6_method_9_code, exceptionTable := #[], attributes := #[] }
def k2m1 : Method := { name := "add", desc := "([J[J[J)V", sig := { parameters := [(.array .long), (.array .long), (.array .long)], returnType := none }, accessFlags := 8, code := some k2c1 }
/-- com/example/libsworn/libsworn/P256Field -/
def k2 : Class := { plain "com/example/libsworn/libsworn/P256Field" (some 0) with
  accessFlags := 32
  interfaces := #[]
  cf := some (fileOf pool2 1 #[] #[{ accessFlags := 2, nameIndex := 7, descriptorIndex := 8, attributes := #[] }, { accessFlags := 8, nameIndex := 71, descriptorIndex := 20, attributes := #[] }] 32 4 #[] #[{ accessFlags := 24, nameIndex := 74, descriptorIndex := 61, attributes := #[] }, { accessFlags := 24, nameIndex := 80, descriptorIndex := 81, attributes := #[] }, { accessFlags := 26, nameIndex := 84, descriptorIndex := 81, attributes := #[] }, { accessFlags := 26, nameIndex := 86, descriptorIndex := 87, attributes := #[] }, { accessFlags := 26, nameIndex := 88, descriptorIndex := 81, attributes := #[] }, { accessFlags := 26, nameIndex := 25, descriptorIndex := 16, attributes := #[] }, { accessFlags := 26, nameIndex := 15, descriptorIndex := 16, attributes := #[] }, { accessFlags := 26, nameIndex := 90, descriptorIndex := 87, attributes := #[] }, { accessFlags := 24, nameIndex := 60, descriptorIndex := 16, attributes := #[] }])
  fields := #[{ name := "PRIME", type := (.object "java/math/BigInteger"), accessFlags := 24, slot := 0, constantValue := 0 }, { name := "LIMBS", type := .int, accessFlags := 24, slot := 1, constantValue := 0 }, { name := "RADIX_BITS", type := .int, accessFlags := 26, slot := 2, constantValue := 0 }, { name := "LIMB_MASK", type := .long, accessFlags := 26, slot := 3, constantValue := 0 }, { name := "MONTGOMERY_BITS", type := .int, accessFlags := 26, slot := 4, constantValue := 0 }, { name := "PRIME_LIMBS", type := (.array .long), accessFlags := 26, slot := 5, constantValue := 0 }, { name := "R_SQUARED", type := (.array .long), accessFlags := 26, slot := 6, constantValue := 0 }, { name := "TOP_TERMS", type := .long, accessFlags := 26, slot := 7, constantValue := 0 }, { name := "ONE", type := (.array .long), accessFlags := 24, slot := 8, constantValue := 0 }]
  methods := #[k2m0, k2m1]
  instanceTypes := #[]
  staticTypes := #[(.object "java/math/BigInteger"), .int, .int, .long, .int, (.array .long), (.array .long), .long, (.array .long)]
  resolved := Array.replicate 111 none
  statics := none }

def pool3 : Array CpInfo := pool [(1, u "java/lang/Cloneable"), (0, .class_ 1), (0, u "java/lang/Object"), (0, .class_ 3)] 3

/-- java/lang/Cloneable -/
def k3 : Class := { plain "java/lang/Cloneable" (some 0) with
  accessFlags := 1537
  interfaces := #[]
  cf := some (fileOf pool3 2 #[] #[] 1537 4 #[] #[])
  fields := #[]
  methods := #[]
  instanceTypes := #[]
  staticTypes := #[]
  resolved := Array.replicate 8 none
  statics := none }

def pool4 : Array CpInfo := pool [(1, u "java/io/Serializable"), (0, .class_ 1), (0, u "java/lang/Object"), (0, .class_ 3)] 3

/-- java/io/Serializable -/
def k4 : Class := { plain "java/io/Serializable" (some 0) with
  accessFlags := 1537
  interfaces := #[]
  cf := some (fileOf pool4 2 #[] #[] 1537 4 #[] #[])
  fields := #[]
  methods := #[]
  instanceTypes := #[]
  staticTypes := #[]
  resolved := Array.replicate 8 none
  statics := none }

/-- the primitive byte -/
def k5 : Class := { plain "byte" none with kind := .primitive 'B', accessFlags := 0x411 }
/-- [B -/
def k6 : Class := { plain "[B" (some 0) with kind := .array 5 .byte, interfaces := #[3, 4], accessFlags := 1041 }

/-- the primitive int -/
def k7 : Class := { plain "int" none with kind := .primitive 'I', accessFlags := 0x411 }
/-- [I -/
def k8 : Class := { plain "[I" (some 0) with kind := .array 7 .int, interfaces := #[3, 4], accessFlags := 1041 }

/-- the primitive long -/
def k9 : Class := { plain "long" none with kind := .primitive 'J', accessFlags := 0x411 }
/-- [J -/
def k10 : Class := { plain "[J" (some 0) with kind := .array 9 .long, interfaces := #[3, 4], accessFlags := 1041 }

def heap : Heap := #[]
def classes : Array Class := #[k0, k1, k2, k3, k4, k5, k6, k7, k8, k9, k10]
def interned : List (Array UInt16 × Addr) := []
def slotsUsed : Nat := 0
def theMethod : MethodId := ⟨1, 1⟩
def args0 : Array Value := #[.long 5, .long 5, .long 5, .long 5, .long 5, .int 9]
def aboutOver (below : List Frame) : State where
  vm := { classes := classes, interned := interned.toArray }
  heap := heap
  slotsUsed := slotsUsed
  threads := #[{ frames := .invoking theMethod args0 :: below }]
def below0 : List Frame := [.native { method := ⟨0, 0⟩, args := #[] }]
def about1 : State := aboutOver below0
def p0 : Program := .bare "" "" ""
def e0 : Env := launch0.env 0 0 0
theorem w_frames : about1.frames = Frame.invoking theMethod args0 :: below0 := rfl
set_option maxRecDepth 65536 in
theorem w_args : argsFit about1.vm theMethod args0 = true := by decide +kernel
set_option maxRecDepth 65536 in
theorem w_heap : heapFits about1 = true := by decide +kernel
set_option maxRecDepth 65536 in
theorem w_runnable : about1.curStatus? = some .runnable := by decide +kernel
set_option maxRecDepth 65536 in
theorem w_alone : about1.alone = true := by decide +kernel
set_option maxRecDepth 65536 in
theorem w_named : about1.methodNamed? x = some theMethod := by decide +kernel
set_option maxRecDepth 65536 in
theorem w_hears : about1.hears theMethod below0 = true := by decide +kernel
set_option maxRecDepth 65536 in
theorem w_ripe : about1.ripe theMethod args0 below0 = true := by decide +kernel
theorem w_running : about1.status = .running := rfl
set_option maxRecDepth 65536 in
theorem w_room : about1.hasRoom e0.platform room_1 = true :=
  launch0.hasRoom_least _ room_1 (by decide +kernel) (by decide +kernel) (by decide +kernel) (by decide +kernel) (by decide +kernel) (by decide +kernel)
theorem allAtoms_all (ts : List Jvm.Cond) (a : Array Jvm.Value) (st : Jvm.State) : (allAtoms ts).before a st = ts.all (fun c => c.before a st) := by
  induction ts with
  | nil => rfl
  | cons c t ih =>
    show (Jvm.Cond.and c (allAtoms t)).before a st = _
    rw [Jvm.Cond.before_and, ih, List.all_cons]
def words1 : List Jvm.Cond := Jvm.Cond.code x code maxLocals ret :: tables_1
/-- a 'code' word, met by the world's own term for the bytes: nothing is compared byte by byte -/
theorem code_word {y : MethodName} {bytes : ByteArray} {mx : Nat} {rt : Option FieldType} {a : Array Value} {s : State} {m : MethodId} {meth : Method} {c : Code} (h1 : s.methodNamed? y = some m) (h2 : s.vm.method? m = some meth) (h3 : meth.code = some c) (h4 : c.code = bytes)
    (h5 : (c.maxLocals == mx && c.exceptionTable.isEmpty && decide (c.maxStack ≤ mostOperands) && decide (meth.sig.returnType = rt) && !meth.locks && decide (parseMethodDescriptor y.desc = some meth.sig)) = true) : (Jvm.Cond.code y bytes mx rt).before a s = true := by
  simp only [Bool.and_eq_true, beq_iff_eq, Bool.not_eq_true', decide_eq_true_eq] at h5
  obtain ⟨⟨⟨⟨⟨g1, g2⟩, g3⟩, g4⟩, g5⟩, g6⟩ := h5
  simp [Cond.before, Cond.holds, Cond.value, h1, h2, h3, h4, g1, g2, g3, g4, g5, g6]
def isCode : Jvm.Cond → Bool
  | .code _ _ _ _ => true
  | _ => false
theorem all_split {L : List Jvm.Cond} {P : Jvm.Cond → Bool} (h1 : L.all (fun c => isCode c || P c) = true) (h2 : ∀ c ∈ L.filter isCode, P c = true) : L.all P = true := by
  refine List.all_eq_true.mpr fun c hc => ?_
  have h := List.all_eq_true.mp h1 c hc
  rcases Bool.eq_false_or_eq_true (isCode c) with hi | hi
  · exact h2 c (List.mem_filter.mpr ⟨hc, hi⟩)
  · simpa [hi] using h
set_option maxRecDepth 65536 in
theorem w_c0 : (Jvm.Cond.code x code maxLocals ret).before args0 about1 = true := code_word (m := ⟨1, 1⟩) (meth := k1m1) (c := k1c1) (by decide +kernel) rfl rfl rfl (by decide +kernel)
set_option maxRecDepth 65536 in
theorem w_c1 : (Jvm.Cond.code ({ cls := "com/example/libsworn/libsworn/P256Field", name := "add", desc := "([J[J[J)V" } : Jvm.MethodName) prog_6_method_9_code (4 : Nat) (Option.none : Option Jvm.ClassFile.FieldType)).before args0 about1 = true := code_word (m := ⟨2, 1⟩) (meth := k2m1) (c := k2c1) (by decide +kernel) rfl rfl rfl (by decide +kernel)
def codes1 : List Jvm.Cond := [Jvm.Cond.code x code maxLocals ret, Jvm.Cond.code ({ cls := "com/example/libsworn/libsworn/P256Field", name := "add", desc := "([J[J[J)V" } : Jvm.MethodName) prog_6_method_9_code (4 : Nat) (Option.none : Option Jvm.ClassFile.FieldType)]
set_option maxRecDepth 65536 in
theorem codes_eq : words1.filter isCode = codes1 := rfl
theorem w_codes : ∀ c ∈ words1.filter isCode, c.before args0 about1 = true := by
  rw [codes_eq]
  intro c hc
  simp only [codes1, List.mem_cons, List.not_mem_nil, or_false] at hc
  rcases hc with rfl | rfl
  · exact w_c0
  · exact w_c1
set_option maxRecDepth 65536 in
theorem w_t1 : words1.all (fun c => isCode c || c.before args0 about1) = true := by decide +kernel
theorem w_tables : (allAtoms (Jvm.Cond.code x code maxLocals ret :: tables_1)).before args0 about1 = true := by
  rw [allAtoms_all]
  show words1.all (fun c => c.before args0 about1) = true
  refine all_split ?_ w_codes
  rw [w_t1]
set_option maxRecDepth 65536 in
theorem w_case : (Jvm.Cond.and given_1 narrow_1).before args0 about1 = true := by decide +kernel
theorem w_applies : (headSpec (Jvm.Cond.code x code maxLocals ret :: tables_1) room_1).applies x e0.platform about1 = true :=
  (Spec.applies_iff w_frames).mpr ⟨w_running, w_runnable, w_alone, w_named, w_hears, w_ripe, w_room, w_tables⟩
theorem atStart : AtStart classFile x code maxLocals ret World_1 tables_1 room_1 Calls_1 rest_1 Pre_1 launch0 p0 e0 about1 theMethod args0 below0 :=
  ⟨lists_1, trivial, launch0.admits_env _ _ _, launch0.least_env, fairChoices_fair.cas, fairChoices_fair.clock, w_frames, w_args, w_heap, w_applies, trivial, trivial, w_case⟩
end start1
theorem witness_1 : WitnessClaimed_1 := ⟨start1.p0, start1.e0, start1.about1, start1.theMethod, start1.args0, start1.below0, start1.atStart⟩
end Jvm.Pilot.@@N@@
