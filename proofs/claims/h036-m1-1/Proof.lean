import JvmDerived
import JvmDerived.Pilot.@@N@@Statement
import JvmDerived.Pilot.@@N@@Code
set_option linter.unusedVariables false
set_option linter.unusedSimpArgs false
namespace Jvm.RoadKit
open Sem ClassFile Op Lib Jvm.Stand Jvm.Free Jvm.LawKit
section New
variable {p : Program} {l : Launch} {e : Env} {R : Room} {s : State} {m : MethodId} {args : Array Value} {below : List Frame} {meth : Method} {c : Code} {T : State} {locs : List Loc} {cells slots : Nat}
theorem retI (X : Stand p l e R s m args below meth c T locs cells slots) (hx : p.tables.exec = Jvm.exec) {pc : Nat} {Ls : Array Slot} {z : Int32} {rest : List Value} (hret : meth.sig.returnType = some .int) (hd : decode c.code pc = .ok (.ireturn, 1)) {fs : List Frame}
    (hl : ∀ (f : JFrame) (acts : List Action), f.method = m → f.locked = none → f.entered = [] → (doReturn e (T.setTop f) acts (some (.int z))).1 = T.setFrames fs) : Steps p.tables e below (T.setTop (mkF m pc Ls (.int z :: rest))) (T.setFrames fs) := by
  have hm' : T.vm.method? m = some meth := X.method'
  have hn : narrow .int (.int z) = .int z := rfl
  show Steps p.tables e below (T.setTop { method := m, pc := pc, locals := Ls, stack := _ :: rest, locked := none }) _
  jvm_step X.here [X.here.top, hx, hd, hm', hret, hn]
  first | (intro acts; rw [hl _ acts rfl rfl rfl]) | rw [hl _ _ rfl rfl rfl]
  exact Steps.refl _
end New
end Jvm.RoadKit
namespace Jvm.Pilot.@@N@@
open Jvm Jvm.ClassFile Sem Op Lib Jvm.Free Jvm.Stand Jvm.LawKit Jvm.RoadKit Bundle Jvm.Pilot.@@N@@.Jvm.D
section OwnKit
variable {p : Program} {l : Launch} {e : Env} {R : Room} {s : State} {m : MethodId} {args : Array Value} {below : List Frame} {meth : Method} {c : Code} {Z : State} {a0 : Array Value} {cd : ByteArray} {ml : Nat} {ret : Option FieldType} {own nm : String} {n0 : Nat} {Q : Option Value → Heap → Prop} {h : Heap} {k n : Nat}
/-- what stands fast while one body runs -/
def Cx (p : Program) (s : State) (m : MethodId) (meth : Method) (c : Code) (Z : State) (cd : ByteArray) (ml : Nat) (ret : Option FieldType) (own nm : String) : Prop :=
  p.tables.exec = Jvm.exec ∧ Z.Warmed39 s.vm ∧ c.code = cd ∧ c.maxLocals = ml ∧ s.vm.findClass own = some m.cls ∧ meth.sig.returnType = ret ∧ meth.locks = false ∧ meth.name = nm
/-- from this frame, over this heap, the body returns and Q holds -/
def Wp (p : Program) (l : Launch) (e : Env) (R : Room) (s : State) (m : MethodId) (args : Array Value) (below : List Frame) (meth : Method) (c : Code) (n0 : Nat) (Q : Option Value → Heap → Prop) (h : Heap) (k n : Nat) (g : JFrame) : Prop :=
  ∀ (T : State) (locs : List Loc), Stand p l e R s m args below meth c T locs k n → T.heap = h → Fr n0 locs →
    ∃ s₂ o, Steps p.tables e below (T.setTop g) s₂ ∧ s₂.status = .running ∧ Ended s₂ below o ∧ ∃ v L, o = .returned v ∧ (Q v s₂.heap ∧ Fr n0 L) ∧ FrameEnd s o s₂ L R.cells R.slots
/-- a callee's contract: called with these arguments over this heap it returns, and Q holds -/
def Met (l : Launch) (y : MethodName) (bytes : ByteArray) (mL : Nat) (rt : Option FieldType) (ws : List Jvm.Cond) (rm : Room) (Z : State) (n0 : Nat) (as : Array Value) (h : Heap) (Q : Option Value → Heap → Prop) : Prop :=
  MetFree l y (head1 (Jvm.Cond.code y bytes mL rt :: ws) rm) (fun a U => a = as ∧ Z.Warmed39 U.vm ∧ U.heap = h) (fun _ _ _ _ _ => True) (fun _ U o U' => ∃ v L, o = .returned v ∧ (Q v U'.heap ∧ Fr n0 L) ∧ FrameEnd U o U' L rm.cells rm.slots)
theorem own_met {y : MethodName} {bytes : ByteArray} {mL : Nat} {rt : Option FieldType} {ws : List Jvm.Cond} {rm : Room} {as : Array Value} {Ls : Array Slot} (hpn : plainName y.cls = true) (hef : ∀ m, entryFrame m as mL = mkF m 0 Ls [])
    (H : ∀ p e s m below meth c, Cx p s m meth c Z bytes mL rt y.cls y.name → Wp p l e rm s m as below meth c n0 Q h 0 0 (mkF m 0 Ls [])) : Met l y bytes mL rt ws rm Z n0 as h Q := by
  refine MetFree.of_bodySF (plainFor_of_name hpn) hisR ?_
  intro p e s m args below meth c s₁ Bd hml0 hP hK
  obtain ⟨rfl, hZ, hh⟩ := hP
  have hown : s.vm.findClass y.cls = some m.cls := findClass_of_methodNamed Bd.named
  have hnm := (name_of_methodNamed Bd.named Bd.method).1
  have X0 : Stand p l e rm s m args below meth c s₁ [] 0 0 := Stand.of_body Bd
  have e0 : s₁.heap = h := by rw [← hh, Bd.state]; rfl
  obtain ⟨s₂, o, st, r⟩ := H p e s m below meth c ⟨Bd.exec, hZ, Bd.bytes, hml0, hown, Bd.returns, Bd.notSynchronized, hnm⟩ s₁ [] X0 e0 (Fr.nil n0)
  exact ⟨s₂, o, castTop (hef m) st, r⟩
/-! single steps -/
theorem own_lift {g g' : JFrame} (H : ∀ T, At T m c below → ∀ t, Steps p.tables e below (T.setTop g') t → Steps p.tables e below (T.setTop g) t) (W : Wp p l e R s m args below meth c n0 Q h k n g') : Wp p l e R s m args below meth c n0 Q h k n g := fun T locs X eT N => by
  obtain ⟨s₂, o, st, r⟩ := W T locs X eT N
  exact ⟨s₂, o, H T X.here _ st, r⟩
theorem own_liftX {g g' : JFrame} (H : ∀ T locs, Stand p l e R s m args below meth c T locs k n → T.heap = h → ∀ t, Steps p.tables e below (T.setTop g') t → Steps p.tables e below (T.setTop g) t) (W : Wp p l e R s m args below meth c n0 Q h k n g') : Wp p l e R s m args below meth c n0 Q h k n g := fun T locs X eT N => by
  obtain ⟨s₂, o, st, r⟩ := W T locs X eT N
  exact ⟨s₂, o, H T locs X eT _ st, r⟩
theorem own_cast {g g' : JFrame} (q : g = g') (W : Wp p l e R s m args below meth c n0 Q h k n g') : Wp p l e R s m args below meth c n0 Q h k n g := q ▸ W
theorem own_seq {g g' : JFrame} (t : Wp p l e R s m args below meth c n0 Q h k n g' → Wp p l e R s m args below meth c n0 Q h k n g) (w : Wp p l e R s m args below meth c n0 Q h k n g') : Wp p l e R s m args below meth c n0 Q h k n g := t w
theorem own_seq1 {g : JFrame} {F : Slot → JFrame} (t : (∀ u, RoadKit.One u → Wp p l e R s m args below meth c n0 Q h k n (F u)) → Wp p l e R s m args below meth c n0 Q h k n g) (w : ∀ u, RoadKit.One u → Wp p l e R s m args below meth c n0 Q h k n (F u)) : Wp p l e R s m args below meth c n0 Q h k n g := t w
theorem own_seq2 {g : JFrame} {F : Slot → Slot → JFrame} (t : (∀ u, RoadKit.One u → ∀ v, RoadKit.One v → Wp p l e R s m args below meth c n0 Q h k n (F u v)) → Wp p l e R s m args below meth c n0 Q h k n g) (w : ∀ u, RoadKit.One u → ∀ v, RoadKit.One v → Wp p l e R s m args below meth c n0 Q h k n (F u v)) : Wp p l e R s m args below meth c n0 Q h k n g := t w
theorem own_seqH {g g' : JFrame} {P : Heap → Prop} {k' n' : Nat} (t : (∀ h', P h' → Wp p l e R s m args below meth c n0 Q h' k' n' g') → Wp p l e R s m args below meth c n0 Q h k n g) (w : ∀ h', P h' → Wp p l e R s m args below meth c n0 Q h' k' n' g') : Wp p l e R s m args below meth c n0 Q h k n g := t w
variable {pc pc' : Nat} {Ls Ls' : Array Slot} {st : List Value}
theorem own_iload (C : Cx p s m meth c Z cd ml ret own nm) {i : Nat} {v : Int32} (hd : decode cd pc = .ok (.iload i, 2)) (hl : Ls[i]? = some (.val (.int v))) (hp : pc + 2 = pc') (W : Wp p l e R s m args below meth c n0 Q h k n (mkF m pc' Ls (.int v :: st))) : Wp p l e R s m args below meth c n0 Q h k n (mkF m pc Ls st) := by
  subst hp; exact own_lift (fun T A t q => XS.iload A C.1 rfl (hb C.2.2.1 hd) hl q) W
theorem own_iloadN (C : Cx p s m meth c Z cd ml ret own nm) {i : Fin 4} {v : Int32} (hd : decode cd pc = .ok (.iload_n i, 1)) (hl : Ls[i.val]? = some (.val (.int v))) (hp : pc + 1 = pc') (W : Wp p l e R s m args below meth c n0 Q h k n (mkF m pc' Ls (.int v :: st))) : Wp p l e R s m args below meth c n0 Q h k n (mkF m pc Ls st) := by
  subst hp; exact own_lift (fun T A t q => XS.iloadN A C.1 rfl (hb C.2.2.1 hd) hl q) W
theorem own_lload (C : Cx p s m meth c Z cd ml ret own nm) {i : Nat} {v : Int64} (hd : decode cd pc = .ok (.lload i, 2)) (hl : Ls[i]? = some (.val (.long v))) (hp : pc + 2 = pc') (W : Wp p l e R s m args below meth c n0 Q h k n (mkF m pc' Ls (.long v :: st))) : Wp p l e R s m args below meth c n0 Q h k n (mkF m pc Ls st) := by
  subst hp; exact own_lift (fun T A t q => XS.lload A C.1 rfl (hb C.2.2.1 hd) hl q) W
theorem own_lloadN (C : Cx p s m meth c Z cd ml ret own nm) {i : Fin 4} {v : Int64} (hd : decode cd pc = .ok (.lload_n i, 1)) (hl : Ls[i.val]? = some (.val (.long v))) (hp : pc + 1 = pc') (W : Wp p l e R s m args below meth c n0 Q h k n (mkF m pc' Ls (.long v :: st))) : Wp p l e R s m args below meth c n0 Q h k n (mkF m pc Ls st) := by
  subst hp; exact own_lift (fun T A t q => XS.lloadN A C.1 rfl (hb C.2.2.1 hd) hl q) W
theorem own_aload (C : Cx p s m meth c Z cd ml ret own nm) {i : Nat} {v : Value} (hd : decode cd pc = .ok (.aload i, 2)) (hl : Ls[i]? = some (.val v)) (hv : v.isRef = true) (hp : pc + 2 = pc') (W : Wp p l e R s m args below meth c n0 Q h k n (mkF m pc' Ls (v :: st))) : Wp p l e R s m args below meth c n0 Q h k n (mkF m pc Ls st) := by
  subst hp; exact own_lift (fun T A t q => XS.aload A C.1 rfl (hb C.2.2.1 hd) hl hv q) W
theorem own_aloadN (C : Cx p s m meth c Z cd ml ret own nm) {i : Fin 4} {v : Value} (hd : decode cd pc = .ok (.aload_n i, 1)) (hl : Ls[i.val]? = some (.val v)) (hv : v.isRef = true) (hp : pc + 1 = pc') (W : Wp p l e R s m args below meth c n0 Q h k n (mkF m pc' Ls (v :: st))) : Wp p l e R s m args below meth c n0 Q h k n (mkF m pc Ls st) := by
  subst hp; exact own_lift (fun T A t q => XS.aloadN A C.1 rfl (hb C.2.2.1 hd) hl hv q) W
theorem own_istore (C : Cx p s m meth c Z cd ml ret own nm) {i : Nat} {x y : Int32} (hd : decode cd pc = .ok (.istore i, 2)) (hy : x = y) (hl : storeLocals Ls i (.int y) = some Ls') (hp : pc + 2 = pc') (W : Wp p l e R s m args below meth c n0 Q h k n (mkF m pc' Ls' st)) : Wp p l e R s m args below meth c n0 Q h k n (mkF m pc Ls (.int x :: st)) := by
  subst hp hy; exact own_lift (fun T A t q => XS.istore A C.1 rfl (hb C.2.2.1 hd) rfl hl q) W
theorem own_istoreN (C : Cx p s m meth c Z cd ml ret own nm) {i : Fin 4} {x y : Int32} (hd : decode cd pc = .ok (.istore_n i, 1)) (hy : x = y) (hl : storeLocals Ls i.val (.int y) = some Ls') (hp : pc + 1 = pc') (W : Wp p l e R s m args below meth c n0 Q h k n (mkF m pc' Ls' st)) : Wp p l e R s m args below meth c n0 Q h k n (mkF m pc Ls (.int x :: st)) := by
  subst hp hy; exact own_lift (fun T A t q => XS.istoreN A C.1 rfl (hb C.2.2.1 hd) rfl hl q) W
theorem own_lstore (C : Cx p s m meth c Z cd ml ret own nm) {i : Nat} {x y : Int64} (hd : decode cd pc = .ok (.lstore i, 2)) (hy : x = y) (hl : storeLocals Ls i (.long y) = some Ls') (hp : pc + 2 = pc') (W : Wp p l e R s m args below meth c n0 Q h k n (mkF m pc' Ls' st)) : Wp p l e R s m args below meth c n0 Q h k n (mkF m pc Ls (.long x :: st)) := by
  subst hp hy; exact own_lift (fun T A t q => XS.lstore A C.1 rfl (hb C.2.2.1 hd) rfl hl q) W
theorem own_lstoreN (C : Cx p s m meth c Z cd ml ret own nm) {i : Fin 4} {x y : Int64} (hd : decode cd pc = .ok (.lstore_n i, 1)) (hy : x = y) (hl : storeLocals Ls i.val (.long y) = some Ls') (hp : pc + 1 = pc') (W : Wp p l e R s m args below meth c n0 Q h k n (mkF m pc' Ls' st)) : Wp p l e R s m args below meth c n0 Q h k n (mkF m pc Ls (.long x :: st)) := by
  subst hp hy; exact own_lift (fun T A t q => XS.lstoreN A C.1 rfl (hb C.2.2.1 hd) rfl hl q) W
theorem own_astore (C : Cx p s m meth c Z cd ml ret own nm) {i : Nat} {x : Value} (hd : decode cd pc = .ok (.astore i, 2)) (hv : x.isRef = true) (hl : storeLocals Ls i x = some Ls') (hp : pc + 2 = pc') (W : Wp p l e R s m args below meth c n0 Q h k n (mkF m pc' Ls' st)) : Wp p l e R s m args below meth c n0 Q h k n (mkF m pc Ls (x :: st)) := by
  subst hp; exact own_lift (fun T A t q => XS.astore A C.1 rfl (hb C.2.2.1 hd) rfl hv hl q) W
theorem own_astoreN (C : Cx p s m meth c Z cd ml ret own nm) {i : Fin 4} {x : Value} (hd : decode cd pc = .ok (.astore_n i, 1)) (hv : x.isRef = true) (hl : storeLocals Ls i.val x = some Ls') (hp : pc + 1 = pc') (W : Wp p l e R s m args below meth c n0 Q h k n (mkF m pc' Ls' st)) : Wp p l e R s m args below meth c n0 Q h k n (mkF m pc Ls (x :: st)) := by
  subst hp; exact own_lift (fun T A t q => XS.astoreN A C.1 rfl (hb C.2.2.1 hd) rfl hv hl q) W
theorem own_iconst (C : Cx p s m meth c Z cd ml ret own nm) {i : Int} {v : Int32} (hd : decode cd pc = .ok (.iconst i, 1)) (hv : Int32.ofInt i = v) (hp : pc + 1 = pc') (W : Wp p l e R s m args below meth c n0 Q h k n (mkF m pc' Ls (.int v :: st))) : Wp p l e R s m args below meth c n0 Q h k n (mkF m pc Ls st) := by
  subst hp hv; exact own_lift (fun T A t q => XS.iconst A C.1 rfl (hb C.2.2.1 hd) q) W
theorem own_bipush (C : Cx p s m meth c Z cd ml ret own nm) {i : Int} {v : Int32} (hd : decode cd pc = .ok (.bipush i, 2)) (hv : (Int8.ofInt i).toInt32 = v) (hp : pc + 2 = pc') (W : Wp p l e R s m args below meth c n0 Q h k n (mkF m pc' Ls (.int v :: st))) : Wp p l e R s m args below meth c n0 Q h k n (mkF m pc Ls st) := by
  subst hp hv; exact own_lift (fun T A t q => XS.bipush A C.1 rfl (hb C.2.2.1 hd) q) W
theorem own_sipush (C : Cx p s m meth c Z cd ml ret own nm) {i : Int} {v : Int32} (hd : decode cd pc = .ok (.sipush i, 3)) (hv : (Int16.ofInt i).toInt32 = v) (hp : pc + 3 = pc') (W : Wp p l e R s m args below meth c n0 Q h k n (mkF m pc' Ls (.int v :: st))) : Wp p l e R s m args below meth c n0 Q h k n (mkF m pc Ls st) := by
  subst hp hv; exact own_lift (fun T A t q => XS.sipush A C.1 rfl (hb C.2.2.1 hd) q) W
theorem own_lconst (C : Cx p s m meth c Z cd ml ret own nm) {i : Fin 2} {v : Int64} (hd : decode cd pc = .ok (.lconst i, 1)) (hv : Int64.ofNat i.val = v) (hp : pc + 1 = pc') (W : Wp p l e R s m args below meth c n0 Q h k n (mkF m pc' Ls (.long v :: st))) : Wp p l e R s m args below meth c n0 Q h k n (mkF m pc Ls st) := by
  subst hp hv; exact own_lift (fun T A t q => XS.lconst A C.1 rfl (hb C.2.2.1 hd) q) W
theorem own_null (C : Cx p s m meth c Z cd ml ret own nm) (hd : decode cd pc = .ok (.aconst_null, 1)) (hp : pc + 1 = pc') (W : Wp p l e R s m args below meth c n0 Q h k n (mkF m pc' Ls (.null :: st))) : Wp p l e R s m args below meth c n0 Q h k n (mkF m pc Ls st) := by
  subst hp; exact own_lift (fun T A t q => XS.aconstNull A C.1 rfl (hb C.2.2.1 hd) q) W
/-! returns -/
theorem own_vret (C : Cx p s m meth c Z cd ml none own nm) (hd : decode cd pc = .ok (.return_, 1)) (hk : k ≤ R.cells) (hn : n ≤ R.slots) (hq : Q none h) : Wp p l e R s m args below meth c n0 Q h k n (mkF m pc Ls []) := fun T locs X eT N => by
  obtain ⟨hx, hZ, hby, hml, hown, hret, hlk, hnm⟩ := C
  obtain ⟨fs, hr, hrun, hended, hW, hsame⟩ := X.leave (v := none) (fun _ => rfl) hlk
  exact ⟨_, _, X.returnOut hx hret (hb hby hd) hr, hrun, hended, _, _, rfl, ⟨by rw [show (T.setFrames fs).heap = T.heap from rfl, eT]; exact hq, N⟩, ⟨_, rfl⟩, hW, hsame.mono hk hn⟩
theorem own_iret {z : Int32} (C : Cx p s m meth c Z cd ml (some .int) own nm) (hd : decode cd pc = .ok (.ireturn, 1)) (hk : k ≤ R.cells) (hn : n ≤ R.slots) (hq : Q (some (.int z)) h) : Wp p l e R s m args below meth c n0 Q h k n (mkF m pc Ls (.int z :: st)) := fun T locs X eT N => by
  obtain ⟨hx, hZ, hby, hml, hown, hret, hlk, hnm⟩ := C
  obtain ⟨fs, hr, hrun, hended, hW, hsame⟩ := X.leave (v := some (.int z)) (fun q => by rw [hret] at q; cases q) hlk
  exact ⟨_, _, retI X hx hret (hb hby hd) hr, hrun, hended, _, _, rfl, ⟨by rw [show (T.setFrames fs).heap = T.heap from rfl, eT]; exact hq, N⟩, ⟨_, rfl⟩, hW, hsame.mono hk hn⟩
theorem own_nret {z : Int32} {t : FieldType} (C : Cx p s m meth c Z cd ml (some t) own nm) (ht : t = .boolean ∨ t = .byte ∨ t = .char ∨ t = .short) (hd : decode cd pc = .ok (.ireturn, 1)) (hk : k ≤ R.cells) (hn : n ≤ R.slots) (hq : Q (some (.int (nar t z))) h) : Wp p l e R s m args below meth c n0 Q h k n (mkF m pc Ls (.int z :: st)) := fun T locs X eT N => by
  obtain ⟨hx, hZ, hby, hml, hown, hret, hlk, hnm⟩ := C
  obtain ⟨fs, hr, hrun, hended, hW, hsame⟩ := X.leave (v := some (.int (nar t z))) (fun q => by rw [hret] at q; cases q) hlk
  exact ⟨_, _, retN X hx hret ht (hb hby hd) hr, hrun, hended, _, _, rfl, ⟨by rw [show (T.setFrames fs).heap = T.heap from rfl, eT]; exact hq, N⟩, ⟨_, rfl⟩, hW, hsame.mono hk hn⟩
theorem own_zret {z : Int32} (C : Cx p s m meth c Z cd ml (some .boolean) own nm) (hd : decode cd pc = .ok (.ireturn, 1)) (hk : k ≤ R.cells) (hn : n ≤ R.slots) (hz : z = 0 ∨ z = 1) (hq : Q (some (.int z)) h) : Wp p l e R s m args below meth c n0 Q h k n (mkF m pc Ls (.int z :: st)) :=
  own_nret C (Or.inl rfl) hd hk hn (by rcases hz with rfl | rfl <;> exact hq)
theorem own_lret {z : Int64} (C : Cx p s m meth c Z cd ml (some .long) own nm) (hd : decode cd pc = .ok (.lreturn, 1)) (hk : k ≤ R.cells) (hn : n ≤ R.slots) (hq : Q (some (.long z)) h) : Wp p l e R s m args below meth c n0 Q h k n (mkF m pc Ls [.long z]) := fun T locs X eT N => by
  obtain ⟨hx, hZ, hby, hml, hown, hret, hlk, hnm⟩ := C
  obtain ⟨fs, hr, hrun, hended, hW, hsame⟩ := X.leave (v := some (.long z)) (fun q => by rw [hret] at q; cases q) hlk
  exact ⟨_, _, X.lreturnOut hx hret (hb hby hd) hr, hrun, hended, _, _, rfl, ⟨by rw [show (T.setFrames fs).heap = T.heap from rfl, eT]; exact hq, N⟩, ⟨_, rfl⟩, hW, hsame.mono hk hn⟩
theorem own_aret {z : Value} {t : FieldType} (C : Cx p s m meth c Z cd ml (some t) own nm) (hv : z.isRef = true) (ht : t.isReference = true) (hd : decode cd pc = .ok (.areturn, 1)) (hk : k ≤ R.cells) (hn : n ≤ R.slots) (hq : Q (some z) h) : Wp p l e R s m args below meth c n0 Q h k n (mkF m pc Ls (z :: st)) := fun T locs X eT N => by
  obtain ⟨hx, hZ, hby, hml, hown, hret, hlk, hnm⟩ := C
  obtain ⟨fs, hr, hrun, hended, hW, hsame⟩ := X.leave (v := some z) (fun q => by rw [hret] at q; cases q) hlk
  have hd' := hb hby hd
  refine ⟨_, _, ?_, hrun, hended, _, _, rfl, ⟨by rw [show (T.setFrames fs).heap = T.heap from rfl, eT]; exact hq, N⟩, ⟨_, rfl⟩, hW, hsame.mono hk hn⟩
  jvm_step X.here [X.here.top, hx, hd', X.method', hret, hv, ht]
  first | (intro acts; rw [hr _ acts rfl rfl rfl]) | rw [hr _ _ rfl rfl rfl]
  exact Steps.refl _
theorem own_iadd (C : Cx p s m meth c Z cd ml ret own nm) {x y v : Int32} (hd : decode cd pc = .ok (.iadd, 1)) (hv : x + y = v) (hp : pc + 1 = pc') (W : Wp p l e R s m args below meth c n0 Q h k n (mkF m pc' Ls (.int v :: st))) : Wp p l e R s m args below meth c n0 Q h k n (mkF m pc Ls (.int y :: .int x :: st)) := by
  subst hp hv; exact own_lift (fun T A t q => XS.iadd A C.1 rfl (hb C.2.2.1 hd) rfl q) W
theorem own_isub (C : Cx p s m meth c Z cd ml ret own nm) {x y v : Int32} (hd : decode cd pc = .ok (.isub, 1)) (hv : x - y = v) (hp : pc + 1 = pc') (W : Wp p l e R s m args below meth c n0 Q h k n (mkF m pc' Ls (.int v :: st))) : Wp p l e R s m args below meth c n0 Q h k n (mkF m pc Ls (.int y :: .int x :: st)) := by
  subst hp hv; exact own_lift (fun T A t q => XS.isub A C.1 rfl (hb C.2.2.1 hd) rfl q) W
theorem own_imul (C : Cx p s m meth c Z cd ml ret own nm) {x y v : Int32} (hd : decode cd pc = .ok (.imul, 1)) (hv : x * y = v) (hp : pc + 1 = pc') (W : Wp p l e R s m args below meth c n0 Q h k n (mkF m pc' Ls (.int v :: st))) : Wp p l e R s m args below meth c n0 Q h k n (mkF m pc Ls (.int y :: .int x :: st)) := by
  subst hp hv; exact own_lift (fun T A t q => XS.imul A C.1 rfl (hb C.2.2.1 hd) rfl q) W
theorem own_iand (C : Cx p s m meth c Z cd ml ret own nm) {x y v : Int32} (hd : decode cd pc = .ok (.iand, 1)) (hv : x &&& y = v) (hp : pc + 1 = pc') (W : Wp p l e R s m args below meth c n0 Q h k n (mkF m pc' Ls (.int v :: st))) : Wp p l e R s m args below meth c n0 Q h k n (mkF m pc Ls (.int y :: .int x :: st)) := by
  subst hp hv; exact own_lift (fun T A t q => XS.iand A C.1 rfl (hb C.2.2.1 hd) rfl q) W
theorem own_ior (C : Cx p s m meth c Z cd ml ret own nm) {x y v : Int32} (hd : decode cd pc = .ok (.ior, 1)) (hv : x ||| y = v) (hp : pc + 1 = pc') (W : Wp p l e R s m args below meth c n0 Q h k n (mkF m pc' Ls (.int v :: st))) : Wp p l e R s m args below meth c n0 Q h k n (mkF m pc Ls (.int y :: .int x :: st)) := by
  subst hp hv; exact own_lift (fun T A t q => XS.ior A C.1 rfl (hb C.2.2.1 hd) rfl q) W
theorem own_ixor (C : Cx p s m meth c Z cd ml ret own nm) {x y v : Int32} (hd : decode cd pc = .ok (.ixor, 1)) (hv : x ^^^ y = v) (hp : pc + 1 = pc') (W : Wp p l e R s m args below meth c n0 Q h k n (mkF m pc' Ls (.int v :: st))) : Wp p l e R s m args below meth c n0 Q h k n (mkF m pc Ls (.int y :: .int x :: st)) := by
  subst hp hv; exact own_lift (fun T A t q => XS.ixor A C.1 rfl (hb C.2.2.1 hd) rfl q) W
theorem own_ishl (C : Cx p s m meth c Z cd ml ret own nm) {x y v : Int32} (hd : decode cd pc = .ok (.ishl, 1)) (hv : x <<< (y &&& 31) = v) (hp : pc + 1 = pc') (W : Wp p l e R s m args below meth c n0 Q h k n (mkF m pc' Ls (.int v :: st))) : Wp p l e R s m args below meth c n0 Q h k n (mkF m pc Ls (.int y :: .int x :: st)) := by
  subst hp hv; exact own_lift (fun T A t q => XS.ishl A C.1 rfl (hb C.2.2.1 hd) rfl q) W
theorem own_ishr (C : Cx p s m meth c Z cd ml ret own nm) {x y v : Int32} (hd : decode cd pc = .ok (.ishr, 1)) (hv : x >>> (y &&& 31) = v) (hp : pc + 1 = pc') (W : Wp p l e R s m args below meth c n0 Q h k n (mkF m pc' Ls (.int v :: st))) : Wp p l e R s m args below meth c n0 Q h k n (mkF m pc Ls (.int y :: .int x :: st)) := by
  subst hp hv; exact own_lift (fun T A t q => XS.ishr A C.1 rfl (hb C.2.2.1 hd) rfl q) W
theorem own_iushr (C : Cx p s m meth c Z cd ml ret own nm) {x y v : Int32} (hd : decode cd pc = .ok (.iushr, 1)) (hv : (x.toUInt32 >>> (y &&& 31).toUInt32).toInt32 = v) (hp : pc + 1 = pc') (W : Wp p l e R s m args below meth c n0 Q h k n (mkF m pc' Ls (.int v :: st))) : Wp p l e R s m args below meth c n0 Q h k n (mkF m pc Ls (.int y :: .int x :: st)) := by
  subst hp hv; exact own_lift (fun T A t q => XS.iushr A C.1 rfl (hb C.2.2.1 hd) rfl q) W
theorem own_idiv (C : Cx p s m meth c Z cd ml ret own nm) {x y v : Int32} (hd : decode cd pc = .ok (.idiv, 1)) (hy : y ≠ 0) (hv : x / y = v) (hp : pc + 1 = pc') (W : Wp p l e R s m args below meth c n0 Q h k n (mkF m pc' Ls (.int v :: st))) : Wp p l e R s m args below meth c n0 Q h k n (mkF m pc Ls (.int y :: .int x :: st)) := by
  subst hp hv; exact own_lift (fun T A t q => XS.idiv A C.1 rfl (hb C.2.2.1 hd) rfl hy q) W
theorem own_ladd (C : Cx p s m meth c Z cd ml ret own nm) {x y v : Int64} (hd : decode cd pc = .ok (.ladd, 1)) (hv : x + y = v) (hp : pc + 1 = pc') (W : Wp p l e R s m args below meth c n0 Q h k n (mkF m pc' Ls (.long v :: st))) : Wp p l e R s m args below meth c n0 Q h k n (mkF m pc Ls (.long y :: .long x :: st)) := by
  subst hp hv; exact own_lift (fun T A t q => XS.ladd A C.1 rfl (hb C.2.2.1 hd) rfl q) W
theorem own_lsub (C : Cx p s m meth c Z cd ml ret own nm) {x y v : Int64} (hd : decode cd pc = .ok (.lsub, 1)) (hv : x - y = v) (hp : pc + 1 = pc') (W : Wp p l e R s m args below meth c n0 Q h k n (mkF m pc' Ls (.long v :: st))) : Wp p l e R s m args below meth c n0 Q h k n (mkF m pc Ls (.long y :: .long x :: st)) := by
  subst hp hv; exact own_lift (fun T A t q => XS.lsub A C.1 rfl (hb C.2.2.1 hd) rfl q) W
theorem own_lmul (C : Cx p s m meth c Z cd ml ret own nm) {x y v : Int64} (hd : decode cd pc = .ok (.lmul, 1)) (hv : x * y = v) (hp : pc + 1 = pc') (W : Wp p l e R s m args below meth c n0 Q h k n (mkF m pc' Ls (.long v :: st))) : Wp p l e R s m args below meth c n0 Q h k n (mkF m pc Ls (.long y :: .long x :: st)) := by
  subst hp hv; exact own_lift (fun T A t q => XS.lmul A C.1 rfl (hb C.2.2.1 hd) rfl q) W
theorem own_land (C : Cx p s m meth c Z cd ml ret own nm) {x y v : Int64} (hd : decode cd pc = .ok (.land, 1)) (hv : x &&& y = v) (hp : pc + 1 = pc') (W : Wp p l e R s m args below meth c n0 Q h k n (mkF m pc' Ls (.long v :: st))) : Wp p l e R s m args below meth c n0 Q h k n (mkF m pc Ls (.long y :: .long x :: st)) := by
  subst hp hv; exact own_lift (fun T A t q => XS.land A C.1 rfl (hb C.2.2.1 hd) rfl q) W
theorem own_lor (C : Cx p s m meth c Z cd ml ret own nm) {x y v : Int64} (hd : decode cd pc = .ok (.lor, 1)) (hv : x ||| y = v) (hp : pc + 1 = pc') (W : Wp p l e R s m args below meth c n0 Q h k n (mkF m pc' Ls (.long v :: st))) : Wp p l e R s m args below meth c n0 Q h k n (mkF m pc Ls (.long y :: .long x :: st)) := by
  subst hp hv; exact own_lift (fun T A t q => XS.lor A C.1 rfl (hb C.2.2.1 hd) rfl q) W
theorem own_lxor (C : Cx p s m meth c Z cd ml ret own nm) {x y v : Int64} (hd : decode cd pc = .ok (.lxor, 1)) (hv : x ^^^ y = v) (hp : pc + 1 = pc') (W : Wp p l e R s m args below meth c n0 Q h k n (mkF m pc' Ls (.long v :: st))) : Wp p l e R s m args below meth c n0 Q h k n (mkF m pc Ls (.long y :: .long x :: st)) := by
  subst hp hv; exact own_lift (fun T A t q => XS.lxor A C.1 rfl (hb C.2.2.1 hd) rfl q) W
theorem own_ldiv (C : Cx p s m meth c Z cd ml ret own nm) {x y v : Int64} (hd : decode cd pc = .ok (.ldiv, 1)) (hy : y ≠ 0) (hv : x / y = v) (hp : pc + 1 = pc') (W : Wp p l e R s m args below meth c n0 Q h k n (mkF m pc' Ls (.long v :: st))) : Wp p l e R s m args below meth c n0 Q h k n (mkF m pc Ls (.long y :: .long x :: st)) := by
  subst hp hv; exact own_lift (fun T A t q => XS.ldiv A C.1 rfl (hb C.2.2.1 hd) rfl hy q) W
theorem own_irem (C : Cx p s m meth c Z cd ml ret own nm) {x y v : Int32} (hd : decode cd pc = .ok (.irem, 1)) (hy : y ≠ 0) (hv : x % y = v) (hp : pc + 1 = pc') (W : Wp p l e R s m args below meth c n0 Q h k n (mkF m pc' Ls (.int v :: st))) : Wp p l e R s m args below meth c n0 Q h k n (mkF m pc Ls (.int y :: .int x :: st)) := by
  subst hp hv; exact own_liftX (fun T locs X eT t q => iremM X C.1 rfl (hb C.2.2.1 hd) rfl hy q) W
theorem own_lrem (C : Cx p s m meth c Z cd ml ret own nm) {x y v : Int64} (hd : decode cd pc = .ok (.lrem, 1)) (hy : y ≠ 0) (hv : x % y = v) (hp : pc + 1 = pc') (W : Wp p l e R s m args below meth c n0 Q h k n (mkF m pc' Ls (.long v :: st))) : Wp p l e R s m args below meth c n0 Q h k n (mkF m pc Ls (.long y :: .long x :: st)) := by
  subst hp; rw [← lrem_mod] at hv; subst hv; exact own_lift (fun T A t q => XS.lrem A C.1 rfl (hb C.2.2.1 hd) rfl hy q) W
theorem own_lshl (C : Cx p s m meth c Z cd ml ret own nm) {x v : Int64} {y : Int32} (hd : decode cd pc = .ok (.lshl, 1)) (hv : x <<< (y &&& 0x3f).toInt64 = v) (hp : pc + 1 = pc') (W : Wp p l e R s m args below meth c n0 Q h k n (mkF m pc' Ls (.long v :: st))) : Wp p l e R s m args below meth c n0 Q h k n (mkF m pc Ls (.int y :: .long x :: st)) := by
  subst hp hv; exact own_lift (fun T A t q => XS.lshl A C.1 rfl (hb C.2.2.1 hd) rfl q) W
theorem own_lshr (C : Cx p s m meth c Z cd ml ret own nm) {x v : Int64} {y : Int32} (hd : decode cd pc = .ok (.lshr, 1)) (hv : x >>> (y &&& 0x3f).toInt64 = v) (hp : pc + 1 = pc') (W : Wp p l e R s m args below meth c n0 Q h k n (mkF m pc' Ls (.long v :: st))) : Wp p l e R s m args below meth c n0 Q h k n (mkF m pc Ls (.int y :: .long x :: st)) := by
  subst hp hv; exact own_lift (fun T A t q => XS.lshr A C.1 rfl (hb C.2.2.1 hd) rfl q) W
theorem own_lushr (C : Cx p s m meth c Z cd ml ret own nm) {x v : Int64} {y : Int32} (hd : decode cd pc = .ok (.lushr, 1)) (hv : (x.toUInt64 >>> (y &&& 0x3f).toInt64.toUInt64).toInt64 = v) (hp : pc + 1 = pc') (W : Wp p l e R s m args below meth c n0 Q h k n (mkF m pc' Ls (.long v :: st))) : Wp p l e R s m args below meth c n0 Q h k n (mkF m pc Ls (.int y :: .long x :: st)) := by
  subst hp hv; exact own_lift (fun T A t q => XS.lushr A C.1 rfl (hb C.2.2.1 hd) rfl q) W
theorem own_ineg (C : Cx p s m meth c Z cd ml ret own nm) {x : Int32} {v : Int32} (hd : decode cd pc = .ok (.ineg, 1)) (hv : -x = v) (hp : pc + 1 = pc') (W : Wp p l e R s m args below meth c n0 Q h k n (mkF m pc' Ls (.int v :: st))) : Wp p l e R s m args below meth c n0 Q h k n (mkF m pc Ls (.int x :: st)) := by
  subst hp hv; exact own_lift (fun T A t q => XS.ineg A C.1 rfl (hb C.2.2.1 hd) rfl q) W
theorem own_lneg (C : Cx p s m meth c Z cd ml ret own nm) {x : Int64} {v : Int64} (hd : decode cd pc = .ok (.lneg, 1)) (hv : -x = v) (hp : pc + 1 = pc') (W : Wp p l e R s m args below meth c n0 Q h k n (mkF m pc' Ls (.long v :: st))) : Wp p l e R s m args below meth c n0 Q h k n (mkF m pc Ls (.long x :: st)) := by
  subst hp hv; exact own_lift (fun T A t q => XS.lneg A C.1 rfl (hb C.2.2.1 hd) rfl q) W
theorem own_i2l (C : Cx p s m meth c Z cd ml ret own nm) {x : Int32} {v : Int64} (hd : decode cd pc = .ok (.i2l, 1)) (hv : x.toInt64 = v) (hp : pc + 1 = pc') (W : Wp p l e R s m args below meth c n0 Q h k n (mkF m pc' Ls (.long v :: st))) : Wp p l e R s m args below meth c n0 Q h k n (mkF m pc Ls (.int x :: st)) := by
  subst hp hv; exact own_lift (fun T A t q => XS.i2l A C.1 rfl (hb C.2.2.1 hd) rfl q) W
theorem own_l2i (C : Cx p s m meth c Z cd ml ret own nm) {x : Int64} {v : Int32} (hd : decode cd pc = .ok (.l2i, 1)) (hv : x.toInt32 = v) (hp : pc + 1 = pc') (W : Wp p l e R s m args below meth c n0 Q h k n (mkF m pc' Ls (.int v :: st))) : Wp p l e R s m args below meth c n0 Q h k n (mkF m pc Ls (.long x :: st)) := by
  subst hp hv; exact own_lift (fun T A t q => XS.l2i A C.1 rfl (hb C.2.2.1 hd) rfl q) W
theorem own_i2b (C : Cx p s m meth c Z cd ml ret own nm) {x : Int32} {v : Int32} (hd : decode cd pc = .ok (.i2b, 1)) (hv : x.toInt8.toInt32 = v) (hp : pc + 1 = pc') (W : Wp p l e R s m args below meth c n0 Q h k n (mkF m pc' Ls (.int v :: st))) : Wp p l e R s m args below meth c n0 Q h k n (mkF m pc Ls (.int x :: st)) := by
  subst hp hv; exact own_lift (fun T A t q => XS.i2b A C.1 rfl (hb C.2.2.1 hd) rfl q) W
theorem own_i2s (C : Cx p s m meth c Z cd ml ret own nm) {x : Int32} {v : Int32} (hd : decode cd pc = .ok (.i2s, 1)) (hv : x.toInt16.toInt32 = v) (hp : pc + 1 = pc') (W : Wp p l e R s m args below meth c n0 Q h k n (mkF m pc' Ls (.int v :: st))) : Wp p l e R s m args below meth c n0 Q h k n (mkF m pc Ls (.int x :: st)) := by
  subst hp hv; exact own_lift (fun T A t q => XS.i2s A C.1 rfl (hb C.2.2.1 hd) rfl q) W
theorem own_i2c (C : Cx p s m meth c Z cd ml ret own nm) {x : Int32} {v : Int32} (hd : decode cd pc = .ok (.i2c, 1)) (hv : x.toUInt32.toUInt16.toUInt32.toInt32 = v) (hp : pc + 1 = pc') (W : Wp p l e R s m args below meth c n0 Q h k n (mkF m pc' Ls (.int v :: st))) : Wp p l e R s m args below meth c n0 Q h k n (mkF m pc Ls (.int x :: st)) := by
  subst hp hv; exact own_lift (fun T A t q => XS.i2c A C.1 rfl (hb C.2.2.1 hd) rfl q) W
theorem own_lcmp (C : Cx p s m meth c Z cd ml ret own nm) {x y : Int64} (hd : decode cd pc = .ok (.lcmp, 1)) (hp : pc + 1 = pc') (W : Wp p l e R s m args below meth c n0 Q h k n (mkF m pc' Ls (.int (lcmpW x y) :: st))) : Wp p l e R s m args below meth c n0 Q h k n (mkF m pc Ls (.long y :: .long x :: st)) := by
  subst hp; exact own_lift (fun T A t q => XS.lcmp A C.1 rfl (hb C.2.2.1 hd) rfl q) W
theorem own_dup (C : Cx p s m meth c Z cd ml ret own nm) {x : Value} (hd : decode cd pc = .ok (.dup, 1)) (hc : x.category = 1) (hp : pc + 1 = pc') (W : Wp p l e R s m args below meth c n0 Q h k n (mkF m pc' Ls (x :: x :: st))) : Wp p l e R s m args below meth c n0 Q h k n (mkF m pc Ls (x :: st)) := by
  subst hp; exact own_lift (fun T A t q => XS.dup A C.1 rfl (hb C.2.2.1 hd) rfl hc q) W
theorem own_pop (C : Cx p s m meth c Z cd ml ret own nm) {x : Value} (hd : decode cd pc = .ok (.pop, 1)) (hc : x.category = 1) (hp : pc + 1 = pc') (W : Wp p l e R s m args below meth c n0 Q h k n (mkF m pc' Ls st)) : Wp p l e R s m args below meth c n0 Q h k n (mkF m pc Ls (x :: st)) := by
  subst hp; exact own_lift (fun T A t q => XS.pop A C.1 rfl (hb C.2.2.1 hd) rfl hc q) W
theorem own_dupX1 (C : Cx p s m meth c Z cd ml ret own nm) {x y : Value} (hd : decode cd pc = .ok (.dup_x1, 1)) (hc : x.category = 1) (hc' : y.category = 1) (hp : pc + 1 = pc') (W : Wp p l e R s m args below meth c n0 Q h k n (mkF m pc' Ls (x :: y :: x :: st))) : Wp p l e R s m args below meth c n0 Q h k n (mkF m pc Ls (x :: y :: st)) := by
  subst hp; exact own_lift (fun T A t q => XS.dupX1 A C.1 rfl (hb C.2.2.1 hd) rfl hc hc' q) W
theorem own_dup2 (C : Cx p s m meth c Z cd ml ret own nm) {x y : Value} (hd : decode cd pc = .ok (.dup2, 1)) (hc : x.category = 1) (hc' : y.category = 1) (hp : pc + 1 = pc') (W : Wp p l e R s m args below meth c n0 Q h k n (mkF m pc' Ls (x :: y :: x :: y :: st))) : Wp p l e R s m args below meth c n0 Q h k n (mkF m pc Ls (x :: y :: st)) := by
  subst hp; exact own_lift (fun T A t q => Jvm.Free.XT.dup2 A C.1 rfl (hb C.2.2.1 hd) rfl hc hc' q) W
theorem own_iinc (C : Cx p s m meth c Z cd ml ret own nm) {i : Nat} {d : Int} {x v : Int32} (hd : decode cd pc = .ok (.iinc i d, 3)) (hl : Ls[i]? = some (.val (.int x))) (hv : x + Int32.ofInt d = v) (hl' : storeLocals Ls i (.int v) = some Ls') (hp : pc + 3 = pc') (W : Wp p l e R s m args below meth c n0 Q h k n (mkF m pc' Ls' st)) : Wp p l e R s m args below meth c n0 Q h k n (mkF m pc Ls st) := by
  subst hp hv; exact own_lift (fun T A t q => XS.iinc A C.1 rfl (hb C.2.2.1 hd) hl hl' q) W
theorem own_goto (C : Cx p s m meth c Z cd ml ret own nm) {o : Int} (hd : decode cd pc = .ok (.goto o, 3)) (ho : 0 ≤ (pc : Int) + o) (hp : ((pc : Int) + o).toNat = pc') (W : Wp p l e R s m args below meth c n0 Q h k n (mkF m pc' Ls st)) : Wp p l e R s m args below meth c n0 Q h k n (mkF m pc Ls st) :=
  own_lift (fun T A t q => XS.goto A C.1 rfl (pc0 := pc) (pc' := pc') rfl (hb C.2.2.1 hd) ho hp q) W
theorem own_icmp_lt (C : Cx p s m meth c Z cd ml ret own nm) {o : Int} {x y : Int32} {pt pf : Nat} (hd : decode cd pc = .ok (.if_icmp .lt o, 3)) (ho : 0 ≤ (pc : Int) + o) (hp : ((pc : Int) + o).toNat = pt) (hf : pc + 3 = pf) (WT : x < y → Wp p l e R s m args below meth c n0 Q h k n (mkF m pt Ls st)) (WF : ¬ x < y → Wp p l e R s m args below meth c n0 Q h k n (mkF m pf Ls st)) : Wp p l e R s m args below meth c n0 Q h k n (mkF m pc Ls (.int y :: .int x :: st)) := by
  subst hf
  by_cases g : x < y
  · exact own_lift (fun T A t q => XS.icmpYes A C.1 rfl (pc0 := pc) (pc' := pt) rfl (hb C.2.2.1 hd) rfl (tlt g).1 ho hp q) (WT g)
  · exact own_lift (fun T A t q => XS.icmpNo A C.1 rfl (hb C.2.2.1 hd) rfl (flt g).1 q) (WF g)
theorem own_if_lt (C : Cx p s m meth c Z cd ml ret own nm) {o : Int} {x : Int32} {pt pf : Nat} (hd : decode cd pc = .ok (.ifCond .lt o, 3)) (ho : 0 ≤ (pc : Int) + o) (hp : ((pc : Int) + o).toNat = pt) (hf : pc + 3 = pf) (WT : x < 0 → Wp p l e R s m args below meth c n0 Q h k n (mkF m pt Ls st)) (WF : ¬ x < 0 → Wp p l e R s m args below meth c n0 Q h k n (mkF m pf Ls st)) : Wp p l e R s m args below meth c n0 Q h k n (mkF m pc Ls (.int x :: st)) := by
  subst hf
  by_cases g : x < 0
  · exact own_lift (fun T A t q => XS.ifYes A C.1 rfl (pc0 := pc) (pc' := pt) rfl (hb C.2.2.1 hd) rfl ((if0 _ _).trans (tlt g).1) ho hp q) (WT g)
  · exact own_lift (fun T A t q => XS.ifNo A C.1 rfl (hb C.2.2.1 hd) rfl ((if0 _ _).trans (flt g).1) q) (WF g)
theorem own_lcmp_lt (C : Cx p s m meth c Z cd ml ret own nm) {o : Int} {x y : Int64} {p1 pt pf : Nat} (hd0 : decode cd pc = .ok (.lcmp, 1)) (h1 : pc + 1 = p1) (hd : decode cd p1 = .ok (.ifCond .lt o, 3)) (ho : 0 ≤ (p1 : Int) + o) (hp : ((p1 : Int) + o).toNat = pt) (hf : p1 + 3 = pf) (WT : x < y → Wp p l e R s m args below meth c n0 Q h k n (mkF m pt Ls st)) (WF : ¬ x < y → Wp p l e R s m args below meth c n0 Q h k n (mkF m pf Ls st)) : Wp p l e R s m args below meth c n0 Q h k n (mkF m pc Ls (.long y :: .long x :: st)) :=
  own_lcmp C hd0 h1 (own_if_lt C hd ho hp hf (fun g => WT ((lw_lt x y).mp g)) (fun g => WF (fun q => g ((lw_lt x y).mpr q))))
theorem own_icmp_ge (C : Cx p s m meth c Z cd ml ret own nm) {o : Int} {x y : Int32} {pt pf : Nat} (hd : decode cd pc = .ok (.if_icmp .ge o, 3)) (ho : 0 ≤ (pc : Int) + o) (hp : ((pc : Int) + o).toNat = pt) (hf : pc + 3 = pf) (WT : ¬ x < y → Wp p l e R s m args below meth c n0 Q h k n (mkF m pt Ls st)) (WF : x < y → Wp p l e R s m args below meth c n0 Q h k n (mkF m pf Ls st)) : Wp p l e R s m args below meth c n0 Q h k n (mkF m pc Ls (.int y :: .int x :: st)) := by
  subst hf
  by_cases g : x < y
  · exact own_lift (fun T A t q => XS.icmpNo A C.1 rfl (hb C.2.2.1 hd) rfl (tlt g).2.1 q) (WF g)
  · exact own_lift (fun T A t q => XS.icmpYes A C.1 rfl (pc0 := pc) (pc' := pt) rfl (hb C.2.2.1 hd) rfl (flt g).2.1 ho hp q) (WT g)
theorem own_if_ge (C : Cx p s m meth c Z cd ml ret own nm) {o : Int} {x : Int32} {pt pf : Nat} (hd : decode cd pc = .ok (.ifCond .ge o, 3)) (ho : 0 ≤ (pc : Int) + o) (hp : ((pc : Int) + o).toNat = pt) (hf : pc + 3 = pf) (WT : ¬ x < 0 → Wp p l e R s m args below meth c n0 Q h k n (mkF m pt Ls st)) (WF : x < 0 → Wp p l e R s m args below meth c n0 Q h k n (mkF m pf Ls st)) : Wp p l e R s m args below meth c n0 Q h k n (mkF m pc Ls (.int x :: st)) := by
  subst hf
  by_cases g : x < 0
  · exact own_lift (fun T A t q => XS.ifNo A C.1 rfl (hb C.2.2.1 hd) rfl ((if0 _ _).trans (tlt g).2.1) q) (WF g)
  · exact own_lift (fun T A t q => XS.ifYes A C.1 rfl (pc0 := pc) (pc' := pt) rfl (hb C.2.2.1 hd) rfl ((if0 _ _).trans (flt g).2.1) ho hp q) (WT g)
theorem own_lcmp_ge (C : Cx p s m meth c Z cd ml ret own nm) {o : Int} {x y : Int64} {p1 pt pf : Nat} (hd0 : decode cd pc = .ok (.lcmp, 1)) (h1 : pc + 1 = p1) (hd : decode cd p1 = .ok (.ifCond .ge o, 3)) (ho : 0 ≤ (p1 : Int) + o) (hp : ((p1 : Int) + o).toNat = pt) (hf : p1 + 3 = pf) (WT : ¬ x < y → Wp p l e R s m args below meth c n0 Q h k n (mkF m pt Ls st)) (WF : x < y → Wp p l e R s m args below meth c n0 Q h k n (mkF m pf Ls st)) : Wp p l e R s m args below meth c n0 Q h k n (mkF m pc Ls (.long y :: .long x :: st)) :=
  own_lcmp C hd0 h1 (own_if_ge C hd ho hp hf (fun g => WT (fun q => g ((lw_lt x y).mpr q))) (fun g => WF ((lw_lt x y).mp g)))
theorem own_icmp_gt (C : Cx p s m meth c Z cd ml ret own nm) {o : Int} {x y : Int32} {pt pf : Nat} (hd : decode cd pc = .ok (.if_icmp .gt o, 3)) (ho : 0 ≤ (pc : Int) + o) (hp : ((pc : Int) + o).toNat = pt) (hf : pc + 3 = pf) (WT : y < x → Wp p l e R s m args below meth c n0 Q h k n (mkF m pt Ls st)) (WF : ¬ y < x → Wp p l e R s m args below meth c n0 Q h k n (mkF m pf Ls st)) : Wp p l e R s m args below meth c n0 Q h k n (mkF m pc Ls (.int y :: .int x :: st)) := by
  subst hf
  by_cases g : y < x
  · exact own_lift (fun T A t q => XS.icmpYes A C.1 rfl (pc0 := pc) (pc' := pt) rfl (hb C.2.2.1 hd) rfl (tlt g).2.2.1 ho hp q) (WT g)
  · exact own_lift (fun T A t q => XS.icmpNo A C.1 rfl (hb C.2.2.1 hd) rfl (flt g).2.2.1 q) (WF g)
theorem own_if_gt (C : Cx p s m meth c Z cd ml ret own nm) {o : Int} {x : Int32} {pt pf : Nat} (hd : decode cd pc = .ok (.ifCond .gt o, 3)) (ho : 0 ≤ (pc : Int) + o) (hp : ((pc : Int) + o).toNat = pt) (hf : pc + 3 = pf) (WT : 0 < x → Wp p l e R s m args below meth c n0 Q h k n (mkF m pt Ls st)) (WF : ¬ 0 < x → Wp p l e R s m args below meth c n0 Q h k n (mkF m pf Ls st)) : Wp p l e R s m args below meth c n0 Q h k n (mkF m pc Ls (.int x :: st)) := by
  subst hf
  by_cases g : 0 < x
  · exact own_lift (fun T A t q => XS.ifYes A C.1 rfl (pc0 := pc) (pc' := pt) rfl (hb C.2.2.1 hd) rfl ((if0 _ _).trans (tlt g).2.2.1) ho hp q) (WT g)
  · exact own_lift (fun T A t q => XS.ifNo A C.1 rfl (hb C.2.2.1 hd) rfl ((if0 _ _).trans (flt g).2.2.1) q) (WF g)
theorem own_lcmp_gt (C : Cx p s m meth c Z cd ml ret own nm) {o : Int} {x y : Int64} {p1 pt pf : Nat} (hd0 : decode cd pc = .ok (.lcmp, 1)) (h1 : pc + 1 = p1) (hd : decode cd p1 = .ok (.ifCond .gt o, 3)) (ho : 0 ≤ (p1 : Int) + o) (hp : ((p1 : Int) + o).toNat = pt) (hf : p1 + 3 = pf) (WT : y < x → Wp p l e R s m args below meth c n0 Q h k n (mkF m pt Ls st)) (WF : ¬ y < x → Wp p l e R s m args below meth c n0 Q h k n (mkF m pf Ls st)) : Wp p l e R s m args below meth c n0 Q h k n (mkF m pc Ls (.long y :: .long x :: st)) :=
  own_lcmp C hd0 h1 (own_if_gt C hd ho hp hf (fun g => WT ((lw_gt x y).mp g)) (fun g => WF (fun q => g ((lw_gt x y).mpr q))))
theorem own_icmp_le (C : Cx p s m meth c Z cd ml ret own nm) {o : Int} {x y : Int32} {pt pf : Nat} (hd : decode cd pc = .ok (.if_icmp .le o, 3)) (ho : 0 ≤ (pc : Int) + o) (hp : ((pc : Int) + o).toNat = pt) (hf : pc + 3 = pf) (WT : ¬ y < x → Wp p l e R s m args below meth c n0 Q h k n (mkF m pt Ls st)) (WF : y < x → Wp p l e R s m args below meth c n0 Q h k n (mkF m pf Ls st)) : Wp p l e R s m args below meth c n0 Q h k n (mkF m pc Ls (.int y :: .int x :: st)) := by
  subst hf
  by_cases g : y < x
  · exact own_lift (fun T A t q => XS.icmpNo A C.1 rfl (hb C.2.2.1 hd) rfl (tlt g).2.2.2 q) (WF g)
  · exact own_lift (fun T A t q => XS.icmpYes A C.1 rfl (pc0 := pc) (pc' := pt) rfl (hb C.2.2.1 hd) rfl (flt g).2.2.2 ho hp q) (WT g)
theorem own_if_le (C : Cx p s m meth c Z cd ml ret own nm) {o : Int} {x : Int32} {pt pf : Nat} (hd : decode cd pc = .ok (.ifCond .le o, 3)) (ho : 0 ≤ (pc : Int) + o) (hp : ((pc : Int) + o).toNat = pt) (hf : pc + 3 = pf) (WT : ¬ 0 < x → Wp p l e R s m args below meth c n0 Q h k n (mkF m pt Ls st)) (WF : 0 < x → Wp p l e R s m args below meth c n0 Q h k n (mkF m pf Ls st)) : Wp p l e R s m args below meth c n0 Q h k n (mkF m pc Ls (.int x :: st)) := by
  subst hf
  by_cases g : 0 < x
  · exact own_lift (fun T A t q => XS.ifNo A C.1 rfl (hb C.2.2.1 hd) rfl ((if0 _ _).trans (tlt g).2.2.2) q) (WF g)
  · exact own_lift (fun T A t q => XS.ifYes A C.1 rfl (pc0 := pc) (pc' := pt) rfl (hb C.2.2.1 hd) rfl ((if0 _ _).trans (flt g).2.2.2) ho hp q) (WT g)
theorem own_lcmp_le (C : Cx p s m meth c Z cd ml ret own nm) {o : Int} {x y : Int64} {p1 pt pf : Nat} (hd0 : decode cd pc = .ok (.lcmp, 1)) (h1 : pc + 1 = p1) (hd : decode cd p1 = .ok (.ifCond .le o, 3)) (ho : 0 ≤ (p1 : Int) + o) (hp : ((p1 : Int) + o).toNat = pt) (hf : p1 + 3 = pf) (WT : ¬ y < x → Wp p l e R s m args below meth c n0 Q h k n (mkF m pt Ls st)) (WF : y < x → Wp p l e R s m args below meth c n0 Q h k n (mkF m pf Ls st)) : Wp p l e R s m args below meth c n0 Q h k n (mkF m pc Ls (.long y :: .long x :: st)) :=
  own_lcmp C hd0 h1 (own_if_le C hd ho hp hf (fun g => WT (fun q => g ((lw_gt x y).mpr q))) (fun g => WF ((lw_gt x y).mp g)))
theorem own_icmp_eq (C : Cx p s m meth c Z cd ml ret own nm) {o : Int} {x y : Int32} {pt pf : Nat} (hd : decode cd pc = .ok (.if_icmp .eq o, 3)) (ho : 0 ≤ (pc : Int) + o) (hp : ((pc : Int) + o).toNat = pt) (hf : pc + 3 = pf) (WT : x = y → Wp p l e R s m args below meth c n0 Q h k n (mkF m pt Ls st)) (WF : ¬ x = y → Wp p l e R s m args below meth c n0 Q h k n (mkF m pf Ls st)) : Wp p l e R s m args below meth c n0 Q h k n (mkF m pc Ls (.int y :: .int x :: st)) := by
  subst hf
  by_cases g : x = y
  · exact own_lift (fun T A t q => XS.icmpYes A C.1 rfl (pc0 := pc) (pc' := pt) rfl (hb C.2.2.1 hd) rfl (teq g).1 ho hp q) (WT g)
  · exact own_lift (fun T A t q => XS.icmpNo A C.1 rfl (hb C.2.2.1 hd) rfl (feq g).1 q) (WF g)
theorem own_if_eq (C : Cx p s m meth c Z cd ml ret own nm) {o : Int} {x : Int32} {pt pf : Nat} (hd : decode cd pc = .ok (.ifCond .eq o, 3)) (ho : 0 ≤ (pc : Int) + o) (hp : ((pc : Int) + o).toNat = pt) (hf : pc + 3 = pf) (WT : x = 0 → Wp p l e R s m args below meth c n0 Q h k n (mkF m pt Ls st)) (WF : ¬ x = 0 → Wp p l e R s m args below meth c n0 Q h k n (mkF m pf Ls st)) : Wp p l e R s m args below meth c n0 Q h k n (mkF m pc Ls (.int x :: st)) := by
  subst hf
  by_cases g : x = 0
  · exact own_lift (fun T A t q => XS.ifYes A C.1 rfl (pc0 := pc) (pc' := pt) rfl (hb C.2.2.1 hd) rfl ((if0 _ _).trans (teq g).1) ho hp q) (WT g)
  · exact own_lift (fun T A t q => XS.ifNo A C.1 rfl (hb C.2.2.1 hd) rfl ((if0 _ _).trans (feq g).1) q) (WF g)
theorem own_lcmp_eq (C : Cx p s m meth c Z cd ml ret own nm) {o : Int} {x y : Int64} {p1 pt pf : Nat} (hd0 : decode cd pc = .ok (.lcmp, 1)) (h1 : pc + 1 = p1) (hd : decode cd p1 = .ok (.ifCond .eq o, 3)) (ho : 0 ≤ (p1 : Int) + o) (hp : ((p1 : Int) + o).toNat = pt) (hf : p1 + 3 = pf) (WT : x = y → Wp p l e R s m args below meth c n0 Q h k n (mkF m pt Ls st)) (WF : ¬ x = y → Wp p l e R s m args below meth c n0 Q h k n (mkF m pf Ls st)) : Wp p l e R s m args below meth c n0 Q h k n (mkF m pc Ls (.long y :: .long x :: st)) :=
  own_lcmp C hd0 h1 (own_if_eq C hd ho hp hf (fun g => WT ((lw_eq x y).mp g)) (fun g => WF (fun q => g ((lw_eq x y).mpr q))))
theorem own_icmp_ne (C : Cx p s m meth c Z cd ml ret own nm) {o : Int} {x y : Int32} {pt pf : Nat} (hd : decode cd pc = .ok (.if_icmp .ne o, 3)) (ho : 0 ≤ (pc : Int) + o) (hp : ((pc : Int) + o).toNat = pt) (hf : pc + 3 = pf) (WT : ¬ x = y → Wp p l e R s m args below meth c n0 Q h k n (mkF m pt Ls st)) (WF : x = y → Wp p l e R s m args below meth c n0 Q h k n (mkF m pf Ls st)) : Wp p l e R s m args below meth c n0 Q h k n (mkF m pc Ls (.int y :: .int x :: st)) := by
  subst hf
  by_cases g : x = y
  · exact own_lift (fun T A t q => XS.icmpNo A C.1 rfl (hb C.2.2.1 hd) rfl (teq g).2 q) (WF g)
  · exact own_lift (fun T A t q => XS.icmpYes A C.1 rfl (pc0 := pc) (pc' := pt) rfl (hb C.2.2.1 hd) rfl (feq g).2 ho hp q) (WT g)
theorem own_if_ne (C : Cx p s m meth c Z cd ml ret own nm) {o : Int} {x : Int32} {pt pf : Nat} (hd : decode cd pc = .ok (.ifCond .ne o, 3)) (ho : 0 ≤ (pc : Int) + o) (hp : ((pc : Int) + o).toNat = pt) (hf : pc + 3 = pf) (WT : ¬ x = 0 → Wp p l e R s m args below meth c n0 Q h k n (mkF m pt Ls st)) (WF : x = 0 → Wp p l e R s m args below meth c n0 Q h k n (mkF m pf Ls st)) : Wp p l e R s m args below meth c n0 Q h k n (mkF m pc Ls (.int x :: st)) := by
  subst hf
  by_cases g : x = 0
  · exact own_lift (fun T A t q => XS.ifNo A C.1 rfl (hb C.2.2.1 hd) rfl ((if0 _ _).trans (teq g).2) q) (WF g)
  · exact own_lift (fun T A t q => XS.ifYes A C.1 rfl (pc0 := pc) (pc' := pt) rfl (hb C.2.2.1 hd) rfl ((if0 _ _).trans (feq g).2) ho hp q) (WT g)
theorem own_lcmp_ne (C : Cx p s m meth c Z cd ml ret own nm) {o : Int} {x y : Int64} {p1 pt pf : Nat} (hd0 : decode cd pc = .ok (.lcmp, 1)) (h1 : pc + 1 = p1) (hd : decode cd p1 = .ok (.ifCond .ne o, 3)) (ho : 0 ≤ (p1 : Int) + o) (hp : ((p1 : Int) + o).toNat = pt) (hf : p1 + 3 = pf) (WT : ¬ x = y → Wp p l e R s m args below meth c n0 Q h k n (mkF m pt Ls st)) (WF : x = y → Wp p l e R s m args below meth c n0 Q h k n (mkF m pf Ls st)) : Wp p l e R s m args below meth c n0 Q h k n (mkF m pc Ls (.long y :: .long x :: st)) :=
  own_lcmp C hd0 h1 (own_if_ne C hd ho hp hf (fun g => WT (fun q => g ((lw_eq x y).mpr q))) (fun g => WF ((lw_eq x y).mp g)))
theorem own_acmp_eq (C : Cx p s m meth c Z cd ml ret own nm) {o : Int} {a b : Addr} {pt pf : Nat} (hd : decode cd pc = .ok (.if_acmp .eq o, 3)) (ho : 0 ≤ (pc : Int) + o) (hp : ((pc : Int) + o).toNat = pt) (hf : pc + 3 = pf) (WT : a = b → Wp p l e R s m args below meth c n0 Q h k n (mkF m pt Ls st)) (WF : ¬ a = b → Wp p l e R s m args below meth c n0 Q h k n (mkF m pf Ls st)) : Wp p l e R s m args below meth c n0 Q h k n (mkF m pc Ls (.ref b :: .ref a :: st)) := by
  subst hf
  by_cases g : a = b
  · exact own_lift (fun T A t q => XS.acmpYes A C.1 rfl (pc0 := pc) (pc' := pt) rfl (hb C.2.2.1 hd) rfl (by simp [if_acmp.holds, g]) ho hp q) (WT g)
  · exact own_lift (fun T A t q => XS.acmpNo A C.1 rfl (hb C.2.2.1 hd) rfl (by simp [if_acmp.holds, g]) q) (WF g)
theorem own_acmp_ne (C : Cx p s m meth c Z cd ml ret own nm) {o : Int} {a b : Addr} {pt pf : Nat} (hd : decode cd pc = .ok (.if_acmp .ne o, 3)) (ho : 0 ≤ (pc : Int) + o) (hp : ((pc : Int) + o).toNat = pt) (hf : pc + 3 = pf) (WT : ¬ a = b → Wp p l e R s m args below meth c n0 Q h k n (mkF m pt Ls st)) (WF : a = b → Wp p l e R s m args below meth c n0 Q h k n (mkF m pf Ls st)) : Wp p l e R s m args below meth c n0 Q h k n (mkF m pc Ls (.ref b :: .ref a :: st)) := by
  subst hf
  by_cases g : a = b
  · exact own_lift (fun T A t q => XS.acmpNo A C.1 rfl (hb C.2.2.1 hd) rfl (by simp [if_acmp.holds, g]) q) (WF g)
  · exact own_lift (fun T A t q => XS.acmpYes A C.1 rfl (pc0 := pc) (pc' := pt) rfl (hb C.2.2.1 hd) rfl (by simp [if_acmp.holds, g]) ho hp q) (WT g)
theorem own_ifnull_y (C : Cx p s m meth c Z cd ml ret own nm) {o : Int} {pt : Nat} (hd : decode cd pc = .ok (.ifnull o, 3)) (ho : 0 ≤ (pc : Int) + o) (hp : ((pc : Int) + o).toNat = pt) (W : Wp p l e R s m args below meth c n0 Q h k n (mkF m pt Ls st)) : Wp p l e R s m args below meth c n0 Q h k n (mkF m pc Ls (.null :: st)) :=
  own_lift (fun T A t q => XS.ifnullYes A C.1 rfl (pc0 := pc) (pc' := pt) rfl (hb C.2.2.1 hd) rfl ho hp q) W
theorem own_ifnull_n (C : Cx p s m meth c Z cd ml ret own nm) {o : Int} {a : Addr} (hd : decode cd pc = .ok (.ifnull o, 3)) (hp : pc + 3 = pc') (W : Wp p l e R s m args below meth c n0 Q h k n (mkF m pc' Ls st)) : Wp p l e R s m args below meth c n0 Q h k n (mkF m pc Ls (.ref a :: st)) := by
  subst hp; exact own_lift (fun T A t q => XS.ifnullNo A C.1 rfl (hb C.2.2.1 hd) rfl q) W
theorem own_ifnonnull_y (C : Cx p s m meth c Z cd ml ret own nm) {o : Int} {a : Addr} {pt : Nat} (hd : decode cd pc = .ok (.ifnonnull o, 3)) (ho : 0 ≤ (pc : Int) + o) (hp : ((pc : Int) + o).toNat = pt) (W : Wp p l e R s m args below meth c n0 Q h k n (mkF m pt Ls st)) : Wp p l e R s m args below meth c n0 Q h k n (mkF m pc Ls (.ref a :: st)) :=
  own_lift (fun T A t q => XS.ifnonnullYes A C.1 rfl (pc0 := pc) (pc' := pt) rfl (hb C.2.2.1 hd) rfl ho hp q) W
theorem own_ifnonnull_n (C : Cx p s m meth c Z cd ml ret own nm) {o : Int} (hd : decode cd pc = .ok (.ifnonnull o, 3)) (hp : pc + 3 = pc') (W : Wp p l e R s m args below meth c n0 Q h k n (mkF m pc' Ls st)) : Wp p l e R s m args below meth c n0 Q h k n (mkF m pc Ls (.null :: st)) := by
  subst hp; exact own_lift (fun T A t q => XS.ifnonnullNo A C.1 rfl (hb C.2.2.1 hd) rfl q) W
theorem own_ldc (C : Cx p s m meth c Z cd ml ret own nm) {i : Nat} {v : Int32} (hd : decode cd pc = .ok (.ldc i, 2)) (w : (Jvm.Cond.constant own i v).before a0 Z = true) (hp : pc + 2 = pc') (W : Wp p l e R s m args below meth c n0 Q h k n (mkF m pc' Ls (.int v :: st))) : Wp p l e R s m args below meth c n0 Q h k n (mkF m pc Ls st) := by
  subst hp; exact own_liftX (fun T locs X eT t q => X.ldcInt C.1 C.2.2.2.2.1 (mvT C.2.1 w) (g := mkF m pc Ls st) rfl (hb C.2.2.1 hd) t q) W
theorem own_ldcw (C : Cx p s m meth c Z cd ml ret own nm) {i : Nat} {v : Int32} (hd : decode cd pc = .ok (.ldc_w i, 3)) (w : (Jvm.Cond.constant own i v).before a0 Z = true) (hp : pc + 3 = pc') (W : Wp p l e R s m args below meth c n0 Q h k n (mkF m pc' Ls (.int v :: st))) : Wp p l e R s m args below meth c n0 Q h k n (mkF m pc Ls st) := by
  subst hp; exact own_liftX (fun T locs X eT t q => X.ldcwInt C.1 C.2.2.2.2.1 (mvT C.2.1 w) (g := mkF m pc Ls st) rfl (hb C.2.2.1 hd) t q) W
theorem own_ldc2 (C : Cx p s m meth c Z cd ml ret own nm) {i : Nat} {v : Int64} (hd : decode cd pc = .ok (.ldc2_w i, 3)) (w : (Jvm.Cond.constantLong own i v).before a0 Z = true) (hp : pc + 3 = pc') (W : Wp p l e R s m args below meth c n0 Q h k n (mkF m pc' Ls (.long v :: st))) : Wp p l e R s m args below meth c n0 Q h k n (mkF m pc Ls st) := by
  subst hp; exact own_liftX (fun T locs X eT t q => X.ldc2Long C.1 C.2.2.2.2.1 (mvT C.2.1 w) (g := mkF m pc Ls st) rfl (hb C.2.2.1 hd) t q) W
/-! objects -/
theorem own_getfield (C : Cx p s m meth c Z cd ml ret own nm) {i : Nat} {O f d : String} {a : Addr} {v : Value} (hd : decode cd pc = .ok (.getfield i, 3)) (w : (Jvm.Cond.fieldLink own i O f d).before a0 Z = true) (F : Fld Z h a O f d v) (hp : pc + 3 = pc') (W : Wp p l e R s m args below meth c n0 Q h k n (mkF m pc' Ls (v :: st))) : Wp p l e R s m args below meth c n0 Q h k n (mkF m pc Ls (.ref a :: st)) := fun T locs X eT N => by
  subst hp
  obtain ⟨T', X', e', st'⟩ := getF X C.1 C.2.1 C.2.2.2.2.1 (host := "") (Or.inl w) Via.refl eT F (g := mkF m pc Ls (.ref a :: st)) rfl rfl (hb C.2.2.1 hd)
  obtain ⟨s₂, o, q, r⟩ := W T' locs X' e' N
  exact ⟨s₂, o, st' _ q, r⟩
theorem own_getstatic (C : Cx p s m meth c Z cd ml ret own nm) {i : Nat} {O f d : String} {v : Value} (hd : decode cd pc = .ok (.getstatic i, 3)) (w : (Jvm.Cond.fieldLink own i O f d).before a0 Z = true) (F : Sta Z h O f d v) (hp : pc + 3 = pc') (W : Wp p l e R s m args below meth c n0 Q h k n (mkF m pc' Ls (v :: st))) : Wp p l e R s m args below meth c n0 Q h k n (mkF m pc Ls st) := fun T locs X eT N => by
  subst hp
  obtain ⟨T', X', e', st'⟩ := getS2 X C.1 C.2.1 C.2.2.2.2.1 (host := "") (Or.inl w) Via.refl eT F (g := mkF m pc Ls st) rfl (hb C.2.2.1 hd)
  obtain ⟨s₂, o, q, r⟩ := W T' locs X' e' N
  exact ⟨s₂, o, st' _ q, r⟩
theorem own_putfield (C : Cx p s m meth c Z cd ml ret own nm) {i kk : Nat} {O f d K : String} {ty : FieldType} {a : Addr} {v old : Value} (hd : decode cd pc = .ok (.putfield i, 3)) (w : (Jvm.Cond.fieldLink own i O f d).before a0 Z = true) (F : Fld Z h a O f d old) (E : Exa Z h a K) (L : (Jvm.Cond.lays K O f d).before a0 Z = true ∨ ((Jvm.Cond.laysFinal K O f d).before a0 Z = true ∧ own = O ∧ nm = "<init>")) (wi : (Jvm.Cond.instantiable K kk).before a0 Z = true)
    (hty : parseFieldDescriptor d = some ty) (hn : narrow ty v = v) (hf : fits ty v = true) (ha : n0 ≤ a) (hp : pc + 3 = pc') (W : ∀ h', Wr h h' a (RoadKit.slotOf Z O f d) v → Fld Z h' a O f d v → Wp p l e R s m args below meth c n0 Q h' k n (mkF m pc' Ls st)) : Wp p l e R s m args below meth c n0 Q h k n (mkF m pc Ls (v :: .ref a :: st)) := fun T locs X eT N => by
  subst hp
  obtain ⟨T', h', X', e', Wr', st'⟩ := putF X C.1 C.2.1 C.2.2.2.2.1 (host := "") (Or.inl w) Via.refl eT F E (L.imp id fun q => ⟨q.1, q.2.1, C.2.2.2.2.2.2.2.trans q.2.2⟩) wi hty hn hf (g := mkF m pc Ls (v :: .ref a :: st)) rfl rfl (hb C.2.2.1 hd)
  obtain ⟨s₂, o, q, r⟩ := W h' Wr' (F.same Wr') T' _ X' e' (Fr.snoc X' N ha)
  exact ⟨s₂, o, st' _ q, r⟩
theorem own_new (C : Cx p s m meth c Z cd ml ret own nm) {i nn : Nat} {K : String} (hd : decode cd pc = .ok (.new i, 3)) (w : (Jvm.Cond.classLink own i K).before a0 Z = true) (wi : (Jvm.Cond.instantiable K nn).before a0 Z = true) (wz : (Jvm.Cond.initialized K).before a0 Z = true) (hc : k + 1 ≤ R.cells) (hl : n + nn ≤ R.slots) (hp : pc + 3 = pc')
    (W : ∀ h' a, a = h.size → Ext h h' → Exa Z h' a K → (∀ {O f d : String} {ty : FieldType}, Laid Z a0 K O f d → parseFieldDescriptor d = some ty → Fld Z h' a O f d (defaultValue ty)) → Wp p l e R s m args below meth c n0 Q h' (k + 1) (n + nn) (mkF m pc' Ls (.ref a :: st))) : Wp p l e R s m args below meth c n0 Q h k n (mkF m pc Ls st) := fun T locs X eT N => by
  subst hp
  obtain ⟨T', h', X', e', E', A', D', -, st'⟩ := newO X C.1 C.2.1 C.2.2.2.2.1 w wi wz eT (g := mkF m pc Ls st) rfl (hb C.2.2.1 hd) hc hl
  obtain ⟨s₂, o, q, r⟩ := W h' h.size rfl E' A' D' T' _ X' e' N
  exact ⟨s₂, o, st' _ q, r⟩
/-- java.lang.Object's own constructor -/
theorem own_initO (C : Cx p s m meth c Z cd ml ret own nm) {i : Nat} {wL : Nat} (hd : decode cd pc = .ok (.invokespecial i, 3)) (w1 : (Jvm.Cond.methodLink own i Lib.objectInit).before a0 Z = true) (w2 : (Jvm.Cond.instanceMethod Lib.objectInit).before a0 Z = true) (w3 : (Jvm.Cond.code Lib.objectInit ⟨#[0xb1]⟩ 1 none).before a0 Z = true)
    {a : Addr} (hsz : Ls.size = ml) (hf : 1 ≤ R.frames) (hW : 0 + (st.map fun v => v.category).sum ≤ wL) (hl : wL + 12 ≤ R.locals) (hp : pc + 3 = pc') (W : Wp p l e R s m args below meth c n0 Q h k n (mkF m pc' Ls st)) : Wp p l e R s m args below meth c n0 Q h k n (mkF m pc Ls (.ref a :: st)) := fun T locs X eT N => by
  subst hp
  obtain ⟨T', X', e', st'⟩ := initO X C.1 C.2.1 C.2.2.2.2.1 w1 w2 w3 eT (g := mkF m pc Ls (.ref a :: st)) rfl (by rw [C.2.2.2.1]; exact hsz) rfl (hb C.2.2.1 hd) hf (W := wL) hW hl
  obtain ⟨s₂, o, q, r⟩ := W T' locs X' e' N
  exact ⟨s₂, o, st' _ q, r⟩
/-! arrays: of ints (of any narrow kind), of longs -/
def AI (Z : State) (h : Heap) (a : Addr) (ty : FieldType) (xs : List Int32) : Prop := ∃ cl : Cell, Arr Z h a cl ty ∧ cl.slots = (xs.map Value.int).toArray ∧ xs.length < 2 ^ 31
def AJ (Z : State) (h : Heap) (a : Addr) (xs : List Int64) : Prop := ∃ cl : Cell, Arr Z h a cl .long ∧ cl.slots = (xs.map Value.long).toArray ∧ xs.length < 2 ^ 31
theorem AI.lt {a : Addr} {ty : FieldType} {xs : List Int32} (A : AI Z h a ty xs) : a < h.size := by obtain ⟨cl, A, -⟩ := A; exact A.lt
theorem AJ.lt {a : Addr} {xs : List Int64} (A : AJ Z h a xs) : a < h.size := by obtain ⟨cl, A, -⟩ := A; exact A.lt
theorem AI.ext {h' : Heap} {a : Addr} {ty : FieldType} {xs : List Int32} (A : AI Z h a ty xs) (E : Ext h h') : AI Z h' a ty xs := by obtain ⟨cl, A, r⟩ := A; exact ⟨cl, A.ext E, r⟩
theorem AJ.ext {h' : Heap} {a : Addr} {xs : List Int64} (A : AJ Z h a xs) (E : Ext h h') : AJ Z h' a xs := by obtain ⟨cl, A, r⟩ := A; exact ⟨cl, A.ext E, r⟩
theorem AI.other {h' : Heap} {a b : Addr} {sl : Nat} {v : Value} {ty : FieldType} {xs : List Int32} (A : AI Z h a ty xs) (W : Wr h h' b sl v) (q : a ≠ b) : AI Z h' a ty xs := by obtain ⟨cl, A, r⟩ := A; exact ⟨cl, A.other W q, r⟩
theorem AJ.other {h' : Heap} {a b : Addr} {sl : Nat} {v : Value} {xs : List Int64} (A : AJ Z h a xs) (W : Wr h h' b sl v) (q : a ≠ b) : AJ Z h' a xs := by obtain ⟨cl, A, r⟩ := A; exact ⟨cl, A.other W q, r⟩
theorem AI.keep {h' : Heap} {a : Addr} {ws : List Addr} {ty : FieldType} {xs : List Int32} (A : AI Z h a ty xs) (K : Keep h h' ws) (q : a ∉ ws) : AI Z h' a ty xs := by obtain ⟨cl, A, r⟩ := A; exact ⟨cl, ⟨K.2.1 a cl A.1 q, A.2⟩, r⟩
theorem AJ.keep {h' : Heap} {a : Addr} {ws : List Addr} {xs : List Int64} (A : AJ Z h a xs) (K : Keep h h' ws) (q : a ∉ ws) : AJ Z h' a xs := by obtain ⟨cl, A, r⟩ := A; exact ⟨cl, ⟨K.2.1 a cl A.1 q, A.2⟩, r⟩
theorem AI.same {h' : Heap} {a : Addr} {i : Nat} {x : Int32} {ty : FieldType} {xs : List Int32} (A : AI Z h a ty xs) (W : Wr h h' a i (.int x)) : AI Z h' a ty (xs.set i x) := by
  obtain ⟨cl, A, r1, r2⟩ := A
  exact ⟨_, A.same W, by simp [Cell.setSlot, r1, List.map_set], by simpa using r2⟩
theorem AJ.same {h' : Heap} {a : Addr} {i : Nat} {x : Int64} {xs : List Int64} (A : AJ Z h a xs) (W : Wr h h' a i (.long x)) : AJ Z h' a (xs.set i x) := by
  obtain ⟨cl, A, r1, r2⟩ := A
  exact ⟨_, A.same W, by simp [Cell.setSlot, r1, List.map_set], by simpa using r2⟩
theorem own_iaload (C : Cx p s m meth c Z cd ml ret own nm) {a : Addr} {j v : Int32} {i : Nat} {xs : List Int32} (hd : decode cd pc = .ok (.iaload, 1)) (A : AI Z h a .int xs) (hj : ¬ j < 0) (hi : j.toNatClampNeg = i) (hv : xs[i]? = some v) (hp : pc + 1 = pc') (W : Wp p l e R s m args below meth c n0 Q h k n (mkF m pc' Ls (.int v :: st))) : Wp p l e R s m args below meth c n0 Q h k n (mkF m pc Ls (.int j :: .ref a :: st)) := by
  subst hp hi
  obtain ⟨cl, A, r1, r2⟩ := A
  have hlt := (List.getElem?_eq_some_iff.mp hv).1
  exact own_liftX (fun T locs X eT t q => X.iaload C.1 (j := j) (v := .int v) (by rw [eT]; exact A.1) (State.isArrayOf_alike C.2.1.alike A.2.1) A.2.2 (fun z => z.elim hj fun y => by rw [r1] at y; simp at y; omega) (by rw [r1]; simp [hv]) (g := mkF m pc Ls (.int j :: .ref a :: st)) rfl rfl (hb C.2.2.1 hd) t q) W
theorem own_baload (C : Cx p s m meth c Z cd ml ret own nm) {a : Addr} {j v : Int32} {i : Nat} {xs : List Int32} (hd : decode cd pc = .ok (.baload, 1)) (A : AI Z h a .byte xs) (hj : ¬ j < 0) (hi : j.toNatClampNeg = i) (hv : xs[i]? = some v) (hp : pc + 1 = pc') (W : Wp p l e R s m args below meth c n0 Q h k n (mkF m pc' Ls (.int v :: st))) : Wp p l e R s m args below meth c n0 Q h k n (mkF m pc Ls (.int j :: .ref a :: st)) := by
  subst hp hi
  obtain ⟨cl, A, r1, r2⟩ := A
  have hlt := (List.getElem?_eq_some_iff.mp hv).1
  exact own_liftX (fun T locs X eT t q => X.baloadBytes C.1 (j := j) (v := .int v) (by rw [eT]; exact A.1) (State.isArrayOf_alike C.2.1.alike A.2.1) A.2.2 (fun z => z.elim hj fun y => by rw [r1] at y; simp at y; omega) (by rw [r1]; simp [hv]) (g := mkF m pc Ls (.int j :: .ref a :: st)) rfl rfl (hb C.2.2.1 hd) t q) W
theorem own_laload (C : Cx p s m meth c Z cd ml ret own nm) {a : Addr} {j : Int32} {v : Int64} {i : Nat} {xs : List Int64} (hd : decode cd pc = .ok (.laload, 1)) (A : AJ Z h a xs) (hj : ¬ j < 0) (hi : j.toNatClampNeg = i) (hv : xs[i]? = some v) (hp : pc + 1 = pc') (W : Wp p l e R s m args below meth c n0 Q h k n (mkF m pc' Ls (.long v :: st))) : Wp p l e R s m args below meth c n0 Q h k n (mkF m pc Ls (.int j :: .ref a :: st)) := by
  subst hp hi
  obtain ⟨cl, A, r1, r2⟩ := A
  have hlt := (List.getElem?_eq_some_iff.mp hv).1
  exact own_liftX (fun T locs X eT t q => X.laload C.1 (j := j) (v := .long v) (by rw [eT]; exact A.1) (State.isArrayOf_alike C.2.1.alike A.2.1) A.2.2 (fun z => z.elim hj fun y => by rw [r1] at y; simp at y; omega) (by rw [r1]; simp [hv]) (g := mkF m pc Ls (.int j :: .ref a :: st)) rfl rfl (hb C.2.2.1 hd) t q) W
theorem own_lenI (C : Cx p s m meth c Z cd ml ret own nm) {a : Addr} {v : Int32} {ty : FieldType} {xs : List Int32} (hd : decode cd pc = .ok (.arraylength, 1)) (A : AI Z h a ty xs) (hv : xs.length.toInt32 = v) (hp : pc + 1 = pc') (W : Wp p l e R s m args below meth c n0 Q h k n (mkF m pc' Ls (.int v :: st))) : Wp p l e R s m args below meth c n0 Q h k n (mkF m pc Ls (.ref a :: st)) := by
  subst hp hv
  obtain ⟨cl, A, r1, r2⟩ := A
  have e1 : cl.slots.size = xs.length := by rw [r1]; simp
  exact own_liftX (fun T locs X eT t q => X.arraylength C.1 (by rw [eT]; exact A.1) (State.isArrayOf_alike C.2.1.alike A.2.1) (g := mkF m pc Ls (.ref a :: st)) rfl rfl (hb C.2.2.1 hd) t (by rw [e1]; exact q)) W
theorem own_lenJ (C : Cx p s m meth c Z cd ml ret own nm) {a : Addr} {v : Int32} {xs : List Int64} (hd : decode cd pc = .ok (.arraylength, 1)) (A : AJ Z h a xs) (hv : xs.length.toInt32 = v) (hp : pc + 1 = pc') (W : Wp p l e R s m args below meth c n0 Q h k n (mkF m pc' Ls (.int v :: st))) : Wp p l e R s m args below meth c n0 Q h k n (mkF m pc Ls (.ref a :: st)) := by
  subst hp hv
  obtain ⟨cl, A, r1, r2⟩ := A
  have e1 : cl.slots.size = xs.length := by rw [r1]; simp
  exact own_liftX (fun T locs X eT t q => X.arraylength C.1 (by rw [eT]; exact A.1) (State.isArrayOf_alike C.2.1.alike A.2.1) (g := mkF m pc Ls (.ref a :: st)) rfl rfl (hb C.2.2.1 hd) t (by rw [e1]; exact q)) W
theorem own_iastore (C : Cx p s m meth c Z cd ml ret own nm) {a : Addr} {j x : Int32} {i : Nat} {xs ys : List Int32} (hd : decode cd pc = .ok (.iastore, 1)) (A : AI Z h a .int xs) (hj : ¬ j < 0) (hi : j.toNatClampNeg = i) (hlt : i < xs.length) (hys : xs.set i x = ys) (ha : n0 ≤ a) (hp : pc + 1 = pc') (W : ∀ h', Wr h h' a i (.int x) → AI Z h' a .int ys → Wp p l e R s m args below meth c n0 Q h' k n (mkF m pc' Ls st)) : Wp p l e R s m args below meth c n0 Q h k n (mkF m pc Ls (.int x :: .int j :: .ref a :: st)) := fun T locs X eT N => by
  subst hp hi hys
  have A' := A
  obtain ⟨cl, A, r1, r2⟩ := A
  obtain ⟨T', h', X', e', Wr', st'⟩ := stI X C.1 C.2.1 eT A (j := j) (x := x) (fun z => z.elim hj fun y => by rw [r1] at y; simp at y; omega) (g := mkF m pc Ls (.int x :: .int j :: .ref a :: st)) rfl rfl (hb C.2.2.1 hd)
  obtain ⟨s₂, o, q, r⟩ := W h' Wr' (A'.same Wr') T' _ X' e' (Fr.snoc X' N ha)
  exact ⟨s₂, o, st' _ q, r⟩
theorem own_lastore (C : Cx p s m meth c Z cd ml ret own nm) {a : Addr} {j : Int32} {x : Int64} {i : Nat} {xs ys : List Int64} (hd : decode cd pc = .ok (.lastore, 1)) (A : AJ Z h a xs) (hj : ¬ j < 0) (hi : j.toNatClampNeg = i) (hlt : i < xs.length) (hys : xs.set i x = ys) (ha : n0 ≤ a) (hp : pc + 1 = pc') (W : ∀ h', Wr h h' a i (.long x) → AJ Z h' a ys → Wp p l e R s m args below meth c n0 Q h' k n (mkF m pc' Ls st)) : Wp p l e R s m args below meth c n0 Q h k n (mkF m pc Ls (.long x :: .int j :: .ref a :: st)) := fun T locs X eT N => by
  subst hp hi hys
  have A' := A
  obtain ⟨cl, A, r1, r2⟩ := A
  obtain ⟨T', h', X', e', Wr', st'⟩ := stJ X C.1 C.2.1 eT A (j := j) (x := x) (fun z => z.elim hj fun y => by rw [r1] at y; simp at y; omega) (g := mkF m pc Ls (.long x :: .int j :: .ref a :: st)) rfl rfl (hb C.2.2.1 hd)
  obtain ⟨s₂, o, q, r⟩ := W h' Wr' (A'.same Wr') T' _ X' e' (Fr.snoc X' N ha)
  exact ⟨s₂, o, st' _ q, r⟩
theorem own_bastore (C : Cx p s m meth c Z cd ml ret own nm) {a : Addr} {j x : Int32} {i : Nat} {xs ys : List Int32} (hd : decode cd pc = .ok (.bastore, 1)) (A : AI Z h a .byte xs) (hj : ¬ j < 0) (hi : j.toNatClampNeg = i) (hlt : i < xs.length) (hys : xs.set i (nar .byte x) = ys) (ha : n0 ≤ a) (hp : pc + 1 = pc') (W : ∀ h', Wr h h' a i (.int (nar .byte x)) → AI Z h' a .byte ys → Wp p l e R s m args below meth c n0 Q h' k n (mkF m pc' Ls st)) : Wp p l e R s m args below meth c n0 Q h k n (mkF m pc Ls (.int x :: .int j :: .ref a :: st)) := fun T locs X eT N => by
  subst hp hi hys
  have A' := A
  obtain ⟨cl, A, r1, r2⟩ := A
  obtain ⟨T', h', X', e', Wr', st'⟩ := stB X C.1 C.2.1 eT A (j := j) (x := x) (fun z => z.elim hj fun y => by rw [r1] at y; simp at y; omega) (g := mkF m pc Ls (.int x :: .int j :: .ref a :: st)) rfl rfl (hb C.2.2.1 hd)
  obtain ⟨s₂, o, q, r⟩ := W h' Wr' (A'.same Wr') T' _ X' e' (Fr.snoc X' N ha)
  exact ⟨s₂, o, st' _ q, r⟩
theorem own_newI (C : Cx p s m meth c Z cd ml ret own nm) {aty : ArrayType} {ty : FieldType} {z : Int32} {len cap : Nat} (hd : decode cd pc = .ok (.newarray aty, 2)) (hty : newarray.typeOf aty = ty) (hdv : defaultValue ty = .int 0) (w : (Jvm.Cond.arrayClass ty).before a0 Z = true) (hz : ¬ z < 0) (hlen : z.toNatClampNeg = len) (hcap : len ≤ cap) (hb8 : cap * 8 ≤ 536870912) (hc : k + 1 ≤ R.cells) (hl : n + cap ≤ R.slots) (hp : pc + 2 = pc')
    (W : ∀ h' a, a = h.size → Ext h h' → AI Z h' a ty (List.replicate len 0) → Wp p l e R s m args below meth c n0 Q h' (k + 1) (n + cap) (mkF m pc' Ls (.ref a :: st))) : Wp p l e R s m args below meth c n0 Q h k n (mkF m pc Ls (.int z :: st)) := fun T locs X eT N => by
  subst hp hlen hty
  obtain ⟨T', h', cA, X', e', E', A', st'⟩ := newP X C.1 C.2.1 w eT (g := mkF m pc Ls (.int z :: st)) rfl (hb C.2.2.1 hd) rfl hz hcap hb8 hc hl
  obtain ⟨s₂, o, q, r⟩ := W h' h.size rfl E' ⟨_, A', by simp [newA, hdv], by simp; exact (back32 hz).2⟩ T' _ X' e' N
  exact ⟨s₂, o, st' _ q, r⟩
theorem own_newJ (C : Cx p s m meth c Z cd ml ret own nm) {z : Int32} {len cap : Nat} (hd : decode cd pc = .ok (.newarray .long, 2)) (w : (Jvm.Cond.arrayClass .long).before a0 Z = true) (hz : ¬ z < 0) (hlen : z.toNatClampNeg = len) (hcap : len ≤ cap) (hb8 : cap * 8 ≤ 536870912) (hc : k + 1 ≤ R.cells) (hl : n + cap ≤ R.slots) (hp : pc + 2 = pc')
    (W : ∀ h' a, a = h.size → Ext h h' → AJ Z h' a (List.replicate len 0) → Wp p l e R s m args below meth c n0 Q h' (k + 1) (n + cap) (mkF m pc' Ls (.ref a :: st))) : Wp p l e R s m args below meth c n0 Q h k n (mkF m pc Ls (.int z :: st)) := fun T locs X eT N => by
  subst hp hlen
  obtain ⟨T', h', cA, X', e', E', A', st'⟩ := newP X C.1 C.2.1 (aty := .long) w eT (g := mkF m pc Ls (.int z :: st)) rfl (hb C.2.2.1 hd) rfl hz hcap hb8 hc hl
  obtain ⟨s₂, o, q, r⟩ := W h' h.size rfl E' ⟨_, A', by simp [newA, newarray.typeOf, defaultValue], by simp; exact (back32 hz).2⟩ T' _ X' e' N
  exact ⟨s₂, o, st' _ q, r⟩
/-! calls -/
theorem own_callS (C : Cx p s m meth c Z cd ml ret own nm) {i : Nat} {y : MethodName} {bytes : ByteArray} {mL wL : Nat} {rt : Option FieldType} {rm : Room} {as : Array Value} {Qc : Option Value → Heap → Prop} {argsL rest : List Value}
    (M : Met l y bytes mL rt [] rm Z n0 as h Qc)
    (hd : decode cd pc = .ok (.invokestatic i, 3)) (w1 : (Jvm.Cond.methodLink own i y).before a0 Z = true) (w2 : (Jvm.Cond.static y).before a0 Z = true) (w3 : (Jvm.Cond.initialized y.cls).before a0 Z = true) (w4 : (Jvm.Cond.code y bytes mL rt).before a0 Z = true)
    (hy : y.cls ≠ "java/lang/invoke/MethodHandle" ∧ y.cls ≠ "java/lang/invoke/VarHandle") (hfr : rm.frames + 1 ≤ R.frames) (hlo : wL + (mL + 11) + rm.locals ≤ R.locals) (hsz : Ls.size = ml) (hlen : ∀ sig, parseMethodDescriptor y.desc = some sig → argsL.length = sig.parameters.length)
    (hst : st = argsL.reverse ++ rest) (has : argsL.toArray = as) (hW : 0 + (rest.map fun v => v.category).sum ≤ wL) (hc : k + rm.cells ≤ R.cells) (hs : n + rm.slots ≤ R.slots) (hp : pc + 3 = pc')
    (W : ∀ v h', Qc v h' → Wp p l e R s m args below meth c n0 Q h' (k + rm.cells) (n + rm.slots) (mkF m pc' Ls (v.toList ++ rest))) : Wp p l e R s m args below meth c n0 Q h k n (mkF m pc Ls st) := fun T locs X eT N => by
  subst hp has
  obtain ⟨_, _, ⟨T', L', k', n'⟩, -, X', ⟨Lc, hQ, l1, y1, z1⟩, st'⟩ := Jvm.LawKit.callS X C.1 (y := y) C.2.2.2.2.1 (mvT C.2.1 w1) (mvT C.2.1 w2) (mvT C.2.1 w3) (mvT C.2.1 w4) hy (backOf (W := wL) (Q := fun v h L => Qc v h ∧ Fr n0 L) M C.2.1 w4 w3 hfr hlo) (g := mkF m pc Ls st) rfl (by rw [C.2.2.2.1]; exact hsz) (argsL := argsL) (rest := rest) hlen hst hW (hb C.2.2.1 hd) (fun _ _ => ⟨rfl, eT, hc, hs⟩)
  dsimp only [Pt.U, Pt.locs, Pt.cells, Pt.slots] at X' l1 y1 z1 st' hQ
  subst l1 y1 z1
  obtain ⟨s₂, o, q, r⟩ := W _ _ hQ.1 T' _ X' rfl (Fr.app N hQ.2)
  exact ⟨s₂, o, st' _ q, r⟩
theorem own_callI (C : Cx p s m meth c Z cd ml ret own nm) {i : Nat} {K : String} {dsc : String} {bytes : ByteArray} {mL wL : Nat} {rm : Room} {as : Array Value} {Qc : Option Value → Heap → Prop} {argsL rest : List Value} {a : Addr}
    (M : Met l ⟨K, "<init>", dsc⟩ bytes mL none [] rm Z n0 as h Qc)
    (hd : decode cd pc = .ok (.invokespecial i, 3)) (w1 : (Jvm.Cond.methodLink own i ⟨K, "<init>", dsc⟩).before a0 Z = true) (w2 : (Jvm.Cond.instanceMethod ⟨K, "<init>", dsc⟩).before a0 Z = true) (w3 : (Jvm.Cond.initialized K).before a0 Z = true) (w4 : (Jvm.Cond.code ⟨K, "<init>", dsc⟩ bytes mL none).before a0 Z = true)
    (hy : K ≠ "java/lang/invoke/MethodHandle" ∧ K ≠ "java/lang/invoke/VarHandle") (hfr : rm.frames + 1 ≤ R.frames) (hlo : wL + (mL + 11) + rm.locals ≤ R.locals) (hsz : Ls.size = ml) (hlen : ∀ sig, parseMethodDescriptor dsc = some sig → argsL.length = sig.parameters.length)
    (hst : st = argsL.reverse ++ .ref a :: rest) (has : (Value.ref a :: argsL).toArray = as) (hW : 0 + (rest.map fun v => v.category).sum ≤ wL) (hc : k + rm.cells ≤ R.cells) (hs : n + rm.slots ≤ R.slots) (hp : pc + 3 = pc')
    (W : ∀ v h', Qc v h' → Wp p l e R s m args below meth c n0 Q h' (k + rm.cells) (n + rm.slots) (mkF m pc' Ls (v.toList ++ rest))) : Wp p l e R s m args below meth c n0 Q h k n (mkF m pc Ls st) := fun T locs X eT N => by
  subst hp has
  obtain ⟨_, _, ⟨T', L', k', n'⟩, -, X', ⟨Lc, hQ, l1, y1, z1⟩, st'⟩ := X.specialBack C.1 (y := ⟨K, "<init>", dsc⟩) rfl C.2.2.2.2.1 (mvT C.2.1 w1) (mvT C.2.1 w2) (mvT C.2.1 w4) hy (backOf (W := wL) (Q := fun v h L => Qc v h ∧ Fr n0 L) M C.2.1 w4 w3 hfr hlo) (g := mkF m pc Ls st) rfl (by rw [C.2.2.2.1]; exact hsz) (Steps.refl _) (a := a) (argsL := argsL) (rest := rest) hlen hst hW (hb C.2.2.1 hd) (fun _ _ => ⟨rfl, eT, hc, hs⟩)
  dsimp only [Pt.U, Pt.locs, Pt.cells, Pt.slots] at X' l1 y1 z1 st' hQ
  subst l1 y1 z1
  obtain ⟨s₂, o, q, r⟩ := W _ _ hQ.1 T' _ X' rfl (Fr.app N hQ.2)
  exact ⟨s₂, o, st'.trans q, r⟩
theorem own_callV (C : Cx p s m meth c Z cd ml ret own nm) {i : Nat} {y : MethodName} {bytes : ByteArray} {mL wL : Nat} {rt : Option FieldType} {rm : Room} {as : Array Value} {Qc : Option Value → Heap → Prop} {argsL rest : List Value} {a : Addr}
    (M : Met l y bytes mL rt [] rm Z n0 as h Qc) (E : Exa Z h a y.cls)
    (hd : decode cd pc = .ok (.invokevirtual i, 3)) (w1 : (Jvm.Cond.methodLink own i y).before a0 Z = true) (w2 : (Jvm.Cond.declares y).before a0 Z = true) (w5 : (Jvm.Cond.selects y.cls y y).before a0 Z = true) (w6 : (Jvm.Cond.instanceMethod y).before a0 Z = true) (w3 : (Jvm.Cond.initialized y.cls).before a0 Z = true) (w4 : (Jvm.Cond.code y bytes mL rt).before a0 Z = true)
    (hy : y.cls ≠ "java/lang/invoke/MethodHandle" ∧ y.cls ≠ "java/lang/invoke/VarHandle") (hfr : rm.frames + 1 ≤ R.frames) (hlo : wL + (mL + 11) + rm.locals ≤ R.locals) (hsz : Ls.size = ml) (hlen : ∀ sig, parseMethodDescriptor y.desc = some sig → argsL.length = sig.parameters.length)
    (hst : st = argsL.reverse ++ .ref a :: rest) (has : (Value.ref a :: argsL).toArray = as) (hW : 0 + (rest.map fun v => v.category).sum ≤ wL) (hc : k + rm.cells ≤ R.cells) (hs : n + rm.slots ≤ R.slots) (hp : pc + 3 = pc')
    (W : ∀ v h', Qc v h' → Wp p l e R s m args below meth c n0 Q h' (k + rm.cells) (n + rm.slots) (mkF m pc' Ls (v.toList ++ rest))) : Wp p l e R s m args below meth c n0 Q h k n (mkF m pc Ls st) := fun T locs X eT N => by
  subst hp has
  obtain ⟨cq, kq, qa, qb, qc⟩ := isOf C.2.1 eT E
  obtain ⟨_, _, ⟨T', L', k', n'⟩, -, X', ⟨Lc, hQ, l1, y1, z1⟩, st'⟩ := X.virtualBack C.1 (y := y) (z := y) C.2.2.2.2.1 (mvT C.2.1 w1) (mvT C.2.1 w2) (notFace_of_selects (args := #[]) (mvT C.2.1 w5)) (mvT C.2.1 w5) (mvT C.2.1 w6) hy (backOf (W := wL) (Q := fun v h L => Qc v h ∧ Fr n0 L) M C.2.1 w4 w3 hfr hlo) qa qc (g := mkF m pc Ls st) rfl (by rw [C.2.2.2.1]; exact hsz) (Steps.refl _) (argsL := argsL) (rest := rest) hlen hst hW (hb C.2.2.1 hd) (fun _ _ => ⟨rfl, eT, hc, hs⟩)
  dsimp only [Pt.U, Pt.locs, Pt.cells, Pt.slots] at X' l1 y1 z1 st' hQ
  subst l1 y1 z1
  obtain ⟨s₂, o, q, r⟩ := W _ _ hQ.1 T' _ X' rfl (Fr.app N hQ.2)
  exact ⟨s₂, o, st'.trans q, r⟩
theorem own_callP (C : Cx p s m meth c Z cd ml ret own nm) {i : Nat} {y : MethodName} {bytes : ByteArray} {mL wL : Nat} {rt : Option FieldType} {rm : Room} {as : Array Value} {Qc : Option Value → Heap → Prop} {argsL rest : List Value} {a : Addr}
    (M : Met l y bytes mL rt [] rm Z n0 as h Qc) (E : Exa Z h a y.cls)
    (hd : decode cd pc = .ok (.invokevirtual i, 3)) (w1 : (Jvm.Cond.methodLink own i y).before a0 Z = true) (w2 : (Jvm.Cond.privateMethod y).before a0 Z = true) (w5 : (Jvm.Cond.selects y.cls y y).before a0 Z = true) (w6 : (Jvm.Cond.instanceMethod y).before a0 Z = true) (w3 : (Jvm.Cond.initialized y.cls).before a0 Z = true) (w4 : (Jvm.Cond.code y bytes mL rt).before a0 Z = true)
    (hy : y.cls ≠ "java/lang/invoke/MethodHandle" ∧ y.cls ≠ "java/lang/invoke/VarHandle") (hfr : rm.frames + 1 ≤ R.frames) (hlo : wL + (mL + 11) + rm.locals ≤ R.locals) (hsz : Ls.size = ml) (hlen : ∀ sig, parseMethodDescriptor y.desc = some sig → argsL.length = sig.parameters.length)
    (hst : st = argsL.reverse ++ .ref a :: rest) (has : (Value.ref a :: argsL).toArray = as) (hW : 0 + (rest.map fun v => v.category).sum ≤ wL) (hc : k + rm.cells ≤ R.cells) (hs : n + rm.slots ≤ R.slots) (hp : pc + 3 = pc')
    (W : ∀ v h', Qc v h' → Wp p l e R s m args below meth c n0 Q h' (k + rm.cells) (n + rm.slots) (mkF m pc' Ls (v.toList ++ rest))) : Wp p l e R s m args below meth c n0 Q h k n (mkF m pc Ls st) := fun T locs X eT N => by
  subst hp has
  obtain ⟨cq, q1, q2⟩ := E.cell
  obtain ⟨_, _, ⟨T', L', k', n'⟩, -, X', ⟨Lc, hQ, l1, y1, z1⟩, st'⟩ := X.privateBack C.1 (y := y) C.2.2.2.2.1 (mvT C.2.1 w1) (mvT C.2.1 w6) (mvT C.2.1 w5) (Cond.privateMethod_at (mvP C.2.1 w2 (args := #[]))) (mvT C.2.1 w4) hy (backOf (W := wL) (Q := fun v h L => Qc v h ∧ Fr n0 L) M C.2.1 w4 w3 hfr hlo) (g := mkF m pc Ls st) rfl (by rw [C.2.2.2.1]; exact hsz) (Steps.refl _) (a := a) (by rw [eT]; exact q1) q2 (argsL := argsL) (rest := rest) hlen hst hW (hb C.2.2.1 hd) (fun _ _ => ⟨rfl, eT, hc, hs⟩)
  dsimp only [Pt.U, Pt.locs, Pt.cells, Pt.slots] at X' l1 y1 z1 st' hQ
  subst l1 y1 z1
  obtain ⟨s₂, o, q, r⟩ := W _ _ hQ.1 T' _ X' rfl (Fr.app N hQ.2)
  exact ⟨s₂, o, st'.trans q, r⟩
end OwnKit
def own_rk (rs : List Int32) (x : Int32) : Int32 := rs.getD x.toNatClampNeg 0
def own_in (x : Int32) : Prop := ¬ x < 0 ∧ x.toNatClampNeg < 5
theorem own_get {r0 r1 r2 r3 r4 x : Int32} (h : own_in x) : [r0, r1, r2, r3, r4][x.toNatClampNeg]? = some (own_rk [r0, r1, r2, r3, r4] x) := by
  have h2 := h.2
  simp only [own_rk, List.getD_eq_getElem?_getD]
  rw [List.getElem?_eq_getElem (by exact h2)]; rfl
def own_lt (rs : List Int32) (x y : Int32) : Bool := decide (own_rk rs x < own_rk rs y)

/-! a heap of five at the most, over any items -/
section OwnHeapFns
variable {α : Type} (lt : α → α → Bool)
def own_p1 (x0 v : α) : α × α := if lt v x0 = true then (v, x0) else (x0, v)
def own_p2 (x0 x1 v : α) : α × α × α := if lt v x0 = true then (v, x1, x0) else (x0, x1, v)
def own_p3 (x0 x1 x2 v : α) : α × α × α × α := if lt v x1 = true then (if lt v x0 = true then (v, x0, x2, x1) else (x0, v, x2, x1)) else (x0, x1, x2, v)
def own_p4 (x0 x1 x2 x3 v : α) : α × α × α × α × α := if lt v x1 = true then (if lt v x0 = true then (v, x0, x2, x3, x1) else (x0, v, x2, x3, x1)) else (x0, x1, x2, x3, v)
def own_q4 (x0 x1 x2 x3 x4 : α) : α × α × α × α := if lt x2 x1 = true then (if lt x2 x4 = true then (x2, x1, x4, x3) else (x4, x1, x2, x3)) else (if lt x1 x4 = true then (if lt x3 x4 = true then (x1, x3, x2, x4) else (x1, x4, x2, x3)) else (x4, x1, x2, x3))
def own_q3 (x0 x1 x2 x3 : α) : α × α × α := if lt x2 x1 = true then (if lt x2 x3 = true then (x2, x1, x3) else (x3, x1, x2)) else (if lt x1 x3 = true then (x1, x3, x2) else (x3, x1, x2))
def own_q2 (x0 x1 x2 : α) : α × α := if lt x1 x2 = true then (x1, x2) else (x2, x1)
def own_r4 (x0 x1 x2 x3 x4 : α) : α × α × α × α := if lt x2 x1 = true then (if lt x4 x2 = true then (x4, x1, x2, x3) else (x2, x1, x4, x3)) else (if lt x4 x1 = true then (x4, x1, x2, x3) else (if lt x4 x3 = true then (x1, x4, x2, x3) else (x1, x3, x2, x4)))
def own_r3 (x0 x1 x2 x3 : α) : α × α × α := if lt x2 x1 = true then (if lt x3 x2 = true then (x3, x1, x2) else (x2, x1, x3)) else (if lt x3 x1 = true then (x3, x1, x2) else (x1, x3, x2))
def own_r2 (x0 x1 x2 : α) : α × α := if lt x2 x1 = true then (x2, x1) else (x1, x2)
def own_cs (a b : α) : α × α := if lt b a = true then (b, a) else (a, b)
end OwnHeapFns
theorem own_rank (K : Fin 5 → Int) : ∃ r : Fin 5 → Fin 5, ∀ i j, (K i < K j ↔ r i < r j) := by
  let b : Fin 5 → Fin 5 → Nat := fun m i => if K m < K i then 1 else 0
  have b01 : ∀ m i, b m i ≤ 1 := fun m i => by show (if K m < K i then 1 else 0) ≤ 1; split <;> omega
  have bs : ∀ i, b i i = 0 := fun i => if_neg (Int.lt_irrefl _)
  let c : Fin 5 → Nat := fun i => b 0 i + b 1 i + b 2 i + b 3 i + b 4 i
  have c5 : ∀ i, c i < 5 := fun i => by
    have h0 := b01 0 i; have h1 := b01 1 i; have h2 := b01 2 i; have h3 := b01 3 i; have h4 := b01 4 i
    show b 0 i + b 1 i + b 2 i + b 3 i + b 4 i < 5
    match i with
    | 0 => have := bs 0; omega
    | 1 => have := bs 1; omega
    | 2 => have := bs 2; omega
    | 3 => have := bs 3; omega
    | 4 => have := bs 4; omega
  have mono : ∀ i j, K i ≤ K j → ∀ m, b m i ≤ b m j := fun i j h m => by
    show (if K m < K i then 1 else 0) ≤ (if K m < K j then 1 else 0)
    by_cases q : K m < K i
    · rw [if_pos q, if_pos (by omega)]; omega
    · rw [if_neg q]; omega
  have le : ∀ i j, K i ≤ K j → c i ≤ c j := fun i j h => by
    have h0 := mono i j h 0; have h1 := mono i j h 1; have h2 := mono i j h 2; have h3 := mono i j h 3; have h4 := mono i j h 4
    show b 0 i + b 1 i + b 2 i + b 3 i + b 4 i ≤ b 0 j + b 1 j + b 2 j + b 3 j + b 4 j
    omega
  have lt : ∀ i j, K i < K j → c i < c j := fun i j h => by
    have h0 := mono i j (by omega) 0; have h1 := mono i j (by omega) 1; have h2 := mono i j (by omega) 2; have h3 := mono i j (by omega) 3; have h4 := mono i j (by omega) 4
    have e1 : b i i = 0 := bs i
    have e2 : b i j = 1 := if_pos h
    show b 0 i + b 1 i + b 2 i + b 3 i + b 4 i < b 0 j + b 1 j + b 2 j + b 3 j + b 4 j
    match i, h, h0, h1, h2, h3, h4, e1, e2 with
    | 0, h, h0, h1, h2, h3, h4, e1, e2 => omega
    | 1, h, h0, h1, h2, h3, h4, e1, e2 => omega
    | 2, h, h0, h1, h2, h3, h4, e1, e2 => omega
    | 3, h, h0, h1, h2, h3, h4, e1, e2 => omega
    | 4, h, h0, h1, h2, h3, h4, e1, e2 => omega
  refine ⟨fun i => ⟨c i, c5 i⟩, fun i j => ⟨fun h => lt i j h, fun h => ?_⟩⟩
  by_cases q : K i < K j
  · exact q
  · have h1 : c i < c j := h
    have h2 := le j i (by omega)
    omega

section OwnPred
variable {α : Type} (lt : α → α → Bool) (P : α → Prop)
theorem own_p1P {x0 v : α} (h0 : P x0) (hv : P v) : P (own_p1 lt x0 v).1 ∧ P (own_p1 lt x0 v).2 := by simp only [own_p1]; split <;> simp [h0, hv]
theorem own_p2P {x0 x1 v : α} (h0 : P x0) (h1 : P x1) (hv : P v) : P (own_p2 lt x0 x1 v).1 ∧ P (own_p2 lt x0 x1 v).2.1 ∧ P (own_p2 lt x0 x1 v).2.2 := by simp only [own_p2]; split <;> simp [h0, h1, hv]
theorem own_p3P {x0 x1 x2 v : α} (h0 : P x0) (h1 : P x1) (h2 : P x2) (hv : P v) : P (own_p3 lt x0 x1 x2 v).1 ∧ P (own_p3 lt x0 x1 x2 v).2.1 ∧ P (own_p3 lt x0 x1 x2 v).2.2.1 ∧ P (own_p3 lt x0 x1 x2 v).2.2.2 := by simp only [own_p3]; split <;> (try split) <;> simp [h0, h1, h2, hv]
theorem own_p4P {x0 x1 x2 x3 v : α} (h0 : P x0) (h1 : P x1) (h2 : P x2) (h3 : P x3) (hv : P v) : P (own_p4 lt x0 x1 x2 x3 v).1 ∧ P (own_p4 lt x0 x1 x2 x3 v).2.1 ∧ P (own_p4 lt x0 x1 x2 x3 v).2.2.1 ∧ P (own_p4 lt x0 x1 x2 x3 v).2.2.2.1 ∧ P (own_p4 lt x0 x1 x2 x3 v).2.2.2.2 := by simp only [own_p4]; split <;> (try split) <;> simp [h0, h1, h2, h3, hv]
theorem own_r4P {x0 x1 x2 x3 x4 : α} (h1 : P x1) (h2 : P x2) (h3 : P x3) (h4 : P x4) : P (own_r4 lt x0 x1 x2 x3 x4).1 ∧ P (own_r4 lt x0 x1 x2 x3 x4).2.1 ∧ P (own_r4 lt x0 x1 x2 x3 x4).2.2.1 ∧ P (own_r4 lt x0 x1 x2 x3 x4).2.2.2 := by simp only [own_r4]; split <;> split <;> (try split) <;> simp [h1, h2, h3, h4]
theorem own_r3P {x0 x1 x2 x3 : α} (h1 : P x1) (h2 : P x2) (h3 : P x3) : P (own_r3 lt x0 x1 x2 x3).1 ∧ P (own_r3 lt x0 x1 x2 x3).2.1 ∧ P (own_r3 lt x0 x1 x2 x3).2.2 := by simp only [own_r3]; split <;> split <;> simp [h1, h2, h3]
theorem own_r2P {x0 x1 x2 : α} (h1 : P x1) (h2 : P x2) : P (own_r2 lt x0 x1 x2).1 ∧ P (own_r2 lt x0 x1 x2).2 := by simp only [own_r2]; split <;> simp [h1, h2]
end OwnPred

theorem d3_0 : decode prog_28_method_3_code 0 = .ok (.aload_n 0, 1) := by decide +kernel
theorem d3_1 : decode prog_28_method_3_code 1 = .ok (.dup, 1) := by decide +kernel
theorem d3_2 : decode prog_28_method_3_code 2 = .ok (.getfield 16, 3) := by decide +kernel
theorem d3_5 : decode prog_28_method_3_code 5 = .ok (.dup_x1, 1) := by decide +kernel
theorem d3_6 : decode prog_28_method_3_code 6 = .ok (.iconst 1, 1) := by decide +kernel
theorem d3_7 : decode prog_28_method_3_code 7 = .ok (.iadd, 1) := by decide +kernel
theorem d3_8 : decode prog_28_method_3_code 8 = .ok (.putfield 16, 3) := by decide +kernel
theorem d3_11 : decode prog_28_method_3_code 11 = .ok (.istore_n 2, 1) := by decide +kernel
theorem d3_12 : decode prog_28_method_3_code 12 = .ok (.iload_n 2, 1) := by decide +kernel
theorem d3_13 : decode prog_28_method_3_code 13 = .ok (.ifCond .le 52, 3) := by decide +kernel
theorem d3_65 : decode prog_28_method_3_code 65 = .ok (.aload_n 0, 1) := by decide +kernel
theorem d3_66 : decode prog_28_method_3_code 66 = .ok (.getfield 13, 3) := by decide +kernel
theorem d3_69 : decode prog_28_method_3_code 69 = .ok (.iload_n 2, 1) := by decide +kernel
theorem d3_70 : decode prog_28_method_3_code 70 = .ok (.iload_n 1, 1) := by decide +kernel
theorem d3_71 : decode prog_28_method_3_code 71 = .ok (.iastore, 1) := by decide +kernel
theorem d3_72 : decode prog_28_method_3_code 72 = .ok (.return_, 1) := by decide +kernel
theorem pn3 : plainName "com/example/precedence/precedence/IntHeap" = true := by first | (simp [plainName, overriddenIn]; done) | decide +kernel
theorem ef3 (m : MethodId) (x0 : Addr) (x1 : Int32) : entryFrame m #[(.ref x0), (.int x1)] 3 = mkF m 0 #[.val (.ref x0), .val (.int x1), .unset] [] := by first | (simp [entryFrame, mkF, argsToLocals, Value.category]; done) | rfl
theorem own_ki_1 : Int32.ofInt (1) = (1 : Int32) := by decide
set_option maxRecDepth 65536 in
set_option maxHeartbeats 40000000 in
theorem own_add0 (l : Launch) (Z : State) (a0 : Array Value) (hw : ∀ d ∈ tables_1, d.before a0 Z = true) (a : Addr) (u : Int32) (r q : Addr) (r0_ r1_ r2_ r3_ r4_ x0_ x1_ x2_ x3_ x4_ : Int32) (h0 : Heap) (n0 : Nat) (Z_ : n0 ≤ h0.size) (E_a : Exa Z h0 a "com/example/precedence/precedence/IntHeap") (F_a_rank : Fld Z h0 a "com/example/precedence/precedence/IntHeap" "rank" "[I" (.ref r)) (F_a_heap : Fld Z h0 a "com/example/precedence/precedence/IntHeap" "heap" "[I" (.ref q)) (F_a_size : Fld Z h0 a "com/example/precedence/precedence/IntHeap" "size" "I" (.int (0 : Int32))) (g_a : n0 ≤ a) (A_r : AI Z h0 r .int [r0_, r1_, r2_, r3_, r4_]) (A_q : AI Z h0 q .int [x0_, x1_, x2_, x3_, x4_]) (g_q : n0 ≤ q) (ne_a_r : a ≠ r) (ne_a_q : a ≠ q) (ne_r_q : r ≠ q) (hi_u : own_in u) :
    Met l (⟨"com/example/precedence/precedence/IntHeap", "add", "(I)V"⟩ : MethodName) prog_28_method_3_code 3 none [] ({ frames := 0, cells := 0, slots := 0, locals := 0 } : Room) Z n0 #[(.ref a), (.int u)] h0 (fun v h => v = none ∧ Keep h0 h [a, q] ∧ Fld Z h a "com/example/precedence/precedence/IntHeap" "rank" "[I" (.ref r) ∧ Fld Z h a "com/example/precedence/precedence/IntHeap" "heap" "[I" (.ref q) ∧ Fld Z h a "com/example/precedence/precedence/IntHeap" "size" "I" (.int (1 : Int32)) ∧ AI Z h q .int [u, x1_, x2_, x3_, x4_]) := by
  refine own_met pn3 (fun m => ef3 m a u) ?_
  intro p e s m below meth c C
  have K_ : Keep h0 h0 [a, q] := Keep.refl _ _
  refine own_aloadN (pc' := 1) C d3_0 rfl rfl rfl ?_
  refine own_dup (pc' := 2) C d3_1 rfl rfl ?_
  refine own_getfield (pc' := 5) C d3_2 (hw _ (List.mem_of_getElem? (i := 19) rfl)) F_a_size rfl ?_
  refine own_dupX1 (pc' := 6) C d3_5 rfl rfl rfl ?_
  refine own_iconst (pc' := 7) (v := (1 : Int32)) C d3_6 own_ki_1 rfl ?_
  refine own_iadd (pc' := 8) (v := (1 : Int32)) C d3_7 (by decide) rfl ?_
  refine own_putfield (pc' := 11) C d3_8 (hw _ (List.mem_of_getElem? (i := 19) rfl)) F_a_size E_a (Or.inl (hw _ (List.mem_of_getElem? (i := 20) rfl))) (hw _ (List.mem_of_getElem? (i := 2) rfl)) (ty := .int) (by decide) rfl rfl g_a rfl ?_
  intro h1 W1 F1_
  replace E_a := E_a.wr W1
  replace F_a_rank := F_a_rank.other W1 (Or.inr (slot_ne (Or.inr (hw _ (List.mem_of_getElem? (i := 11) rfl))) (Or.inl (hw _ (List.mem_of_getElem? (i := 20) rfl))) (by decide) (t := (.array .int)) (t' := .int) (by decide) (by decide)))
  replace F_a_heap := F_a_heap.other W1 (Or.inr (slot_ne (Or.inr (hw _ (List.mem_of_getElem? (i := 13) rfl))) (Or.inl (hw _ (List.mem_of_getElem? (i := 20) rfl))) (by decide) (t := (.array .int)) (t' := .int) (by decide) (by decide)))
  replace A_r := A_r.other W1 (Ne.symm ne_a_r)
  replace A_q := A_q.other W1 (Ne.symm ne_a_q)
  replace F_a_size := F1_
  replace Z_ : n0 ≤ _ := Nat.le_trans Z_ (Nat.le_of_eq W1.size.symm)
  replace K_ := K_.wr W1 (Or.inl (List.mem_of_getElem? (i := 0) rfl))
  refine own_istoreN (pc' := 12) (y := (0 : Int32)) (Ls' := #[.val (.ref a), .val (.int u), .val (.int (0 : Int32))]) C d3_11 rfl rfl rfl ?_
  refine own_iloadN (pc' := 13) C d3_12 rfl rfl ?_
  refine own_if_le (pt := 65) (pf := 16) C d3_13 (by decide) (by decide) rfl (fun _ => ?_) (fun q => absurd q (by decide))
  refine own_aloadN (pc' := 66) C d3_65 rfl rfl rfl ?_
  refine own_getfield (pc' := 69) C d3_66 (hw _ (List.mem_of_getElem? (i := 12) rfl)) F_a_heap rfl ?_
  refine own_iloadN (pc' := 70) C d3_69 rfl rfl ?_
  refine own_iloadN (pc' := 71) C d3_70 rfl rfl ?_
  refine own_iastore (pc' := 72) (i := 0) (ys := [u, x1_, x2_, x3_, x4_]) C d3_71 A_q (by decide) rfl (Nat.le_of_ble_eq_true rfl) rfl g_q rfl ?_
  intro h2 W2 A2_
  replace E_a := E_a.wr W2
  replace F_a_rank := F_a_rank.other W2 (Or.inl ne_a_q)
  replace F_a_heap := F_a_heap.other W2 (Or.inl ne_a_q)
  replace F_a_size := F_a_size.other W2 (Or.inl ne_a_q)
  replace A_r := A_r.other W2 ne_r_q
  replace A_q := A2_
  replace Z_ : n0 ≤ _ := Nat.le_trans Z_ (Nat.le_of_eq W2.size.symm)
  replace K_ := K_.wr W2 (Or.inl (List.mem_of_getElem? (i := 1) rfl))
  refine own_vret C d3_72 (by decide) (by decide) ?_
  exact ⟨rfl, K_, F_a_rank, F_a_heap, F_a_size, A_q⟩

theorem d3_16 : decode prog_28_method_3_code 16 = .ok (.aload_n 0, 1) := by decide +kernel
theorem d3_17 : decode prog_28_method_3_code 17 = .ok (.getfield 7, 3) := by decide +kernel
theorem d3_20 : decode prog_28_method_3_code 20 = .ok (.aload_n 0, 1) := by decide +kernel
theorem d3_21 : decode prog_28_method_3_code 21 = .ok (.getfield 13, 3) := by decide +kernel
theorem d3_24 : decode prog_28_method_3_code 24 = .ok (.iload_n 2, 1) := by decide +kernel
theorem d3_25 : decode prog_28_method_3_code 25 = .ok (.iconst 1, 1) := by decide +kernel
theorem d3_26 : decode prog_28_method_3_code 26 = .ok (.isub, 1) := by decide +kernel
theorem d3_27 : decode prog_28_method_3_code 27 = .ok (.iconst 2, 1) := by decide +kernel
theorem d3_28 : decode prog_28_method_3_code 28 = .ok (.idiv, 1) := by decide +kernel
theorem d3_29 : decode prog_28_method_3_code 29 = .ok (.iaload, 1) := by decide +kernel
theorem d3_30 : decode prog_28_method_3_code 30 = .ok (.iaload, 1) := by decide +kernel
theorem d3_31 : decode prog_28_method_3_code 31 = .ok (.aload_n 0, 1) := by decide +kernel
theorem d3_32 : decode prog_28_method_3_code 32 = .ok (.getfield 7, 3) := by decide +kernel
theorem d3_35 : decode prog_28_method_3_code 35 = .ok (.iload_n 1, 1) := by decide +kernel
theorem d3_36 : decode prog_28_method_3_code 36 = .ok (.iaload, 1) := by decide +kernel
theorem d3_37 : decode prog_28_method_3_code 37 = .ok (.if_icmp .le 28, 3) := by decide +kernel
theorem d3_40 : decode prog_28_method_3_code 40 = .ok (.aload_n 0, 1) := by decide +kernel
theorem d3_41 : decode prog_28_method_3_code 41 = .ok (.getfield 13, 3) := by decide +kernel
theorem d3_44 : decode prog_28_method_3_code 44 = .ok (.iload_n 2, 1) := by decide +kernel
theorem d3_45 : decode prog_28_method_3_code 45 = .ok (.aload_n 0, 1) := by decide +kernel
theorem d3_46 : decode prog_28_method_3_code 46 = .ok (.getfield 13, 3) := by decide +kernel
theorem d3_49 : decode prog_28_method_3_code 49 = .ok (.iload_n 2, 1) := by decide +kernel
theorem d3_50 : decode prog_28_method_3_code 50 = .ok (.iconst 1, 1) := by decide +kernel
theorem d3_51 : decode prog_28_method_3_code 51 = .ok (.isub, 1) := by decide +kernel
theorem d3_52 : decode prog_28_method_3_code 52 = .ok (.iconst 2, 1) := by decide +kernel
theorem d3_53 : decode prog_28_method_3_code 53 = .ok (.idiv, 1) := by decide +kernel
theorem d3_54 : decode prog_28_method_3_code 54 = .ok (.iaload, 1) := by decide +kernel
theorem d3_55 : decode prog_28_method_3_code 55 = .ok (.iastore, 1) := by decide +kernel
theorem d3_56 : decode prog_28_method_3_code 56 = .ok (.iload_n 2, 1) := by decide +kernel
theorem d3_57 : decode prog_28_method_3_code 57 = .ok (.iconst 1, 1) := by decide +kernel
theorem d3_58 : decode prog_28_method_3_code 58 = .ok (.isub, 1) := by decide +kernel
theorem d3_59 : decode prog_28_method_3_code 59 = .ok (.iconst 2, 1) := by decide +kernel
theorem d3_60 : decode prog_28_method_3_code 60 = .ok (.idiv, 1) := by decide +kernel
theorem d3_61 : decode prog_28_method_3_code 61 = .ok (.istore_n 2, 1) := by decide +kernel
theorem d3_62 : decode prog_28_method_3_code 62 = .ok (.goto (-50), 3) := by decide +kernel
theorem own_ki_2 : Int32.ofInt (2) = (2 : Int32) := by decide
set_option maxRecDepth 65536 in
set_option maxHeartbeats 40000000 in
theorem own_add1 (l : Launch) (Z : State) (a0 : Array Value) (hw : ∀ d ∈ tables_1, d.before a0 Z = true) (a : Addr) (u : Int32) (r q : Addr) (r0_ r1_ r2_ r3_ r4_ x0_ x1_ x2_ x3_ x4_ : Int32) (h0 : Heap) (n0 : Nat) (Z_ : n0 ≤ h0.size) (E_a : Exa Z h0 a "com/example/precedence/precedence/IntHeap") (F_a_rank : Fld Z h0 a "com/example/precedence/precedence/IntHeap" "rank" "[I" (.ref r)) (F_a_heap : Fld Z h0 a "com/example/precedence/precedence/IntHeap" "heap" "[I" (.ref q)) (F_a_size : Fld Z h0 a "com/example/precedence/precedence/IntHeap" "size" "I" (.int (1 : Int32))) (g_a : n0 ≤ a) (A_r : AI Z h0 r .int [r0_, r1_, r2_, r3_, r4_]) (A_q : AI Z h0 q .int [x0_, x1_, x2_, x3_, x4_]) (g_q : n0 ≤ q) (ne_a_r : a ≠ r) (ne_a_q : a ≠ q) (ne_r_q : r ≠ q) (hi_x0_ : own_in x0_) (hi_u : own_in u) :
    Met l (⟨"com/example/precedence/precedence/IntHeap", "add", "(I)V"⟩ : MethodName) prog_28_method_3_code 3 none [] ({ frames := 0, cells := 0, slots := 0, locals := 0 } : Room) Z n0 #[(.ref a), (.int u)] h0 (fun v h => v = none ∧ Keep h0 h [a, q] ∧ Fld Z h a "com/example/precedence/precedence/IntHeap" "rank" "[I" (.ref r) ∧ Fld Z h a "com/example/precedence/precedence/IntHeap" "heap" "[I" (.ref q) ∧ Fld Z h a "com/example/precedence/precedence/IntHeap" "size" "I" (.int (2 : Int32)) ∧ AI Z h q .int [(own_p1 (own_lt [r0_, r1_, r2_, r3_, r4_]) x0_ u).1, (own_p1 (own_lt [r0_, r1_, r2_, r3_, r4_]) x0_ u).2, x2_, x3_, x4_]) := by
  refine own_met pn3 (fun m => ef3 m a u) ?_
  intro p e s m below meth c C
  have K_ : Keep h0 h0 [a, q] := Keep.refl _ _
  refine own_aloadN (pc' := 1) C d3_0 rfl rfl rfl ?_
  refine own_dup (pc' := 2) C d3_1 rfl rfl ?_
  refine own_getfield (pc' := 5) C d3_2 (hw _ (List.mem_of_getElem? (i := 19) rfl)) F_a_size rfl ?_
  refine own_dupX1 (pc' := 6) C d3_5 rfl rfl rfl ?_
  refine own_iconst (pc' := 7) (v := (1 : Int32)) C d3_6 own_ki_1 rfl ?_
  refine own_iadd (pc' := 8) (v := (2 : Int32)) C d3_7 (by decide) rfl ?_
  refine own_putfield (pc' := 11) C d3_8 (hw _ (List.mem_of_getElem? (i := 19) rfl)) F_a_size E_a (Or.inl (hw _ (List.mem_of_getElem? (i := 20) rfl))) (hw _ (List.mem_of_getElem? (i := 2) rfl)) (ty := .int) (by decide) rfl rfl g_a rfl ?_
  intro h1 W1 F1_
  replace E_a := E_a.wr W1
  replace F_a_rank := F_a_rank.other W1 (Or.inr (slot_ne (Or.inr (hw _ (List.mem_of_getElem? (i := 11) rfl))) (Or.inl (hw _ (List.mem_of_getElem? (i := 20) rfl))) (by decide) (t := (.array .int)) (t' := .int) (by decide) (by decide)))
  replace F_a_heap := F_a_heap.other W1 (Or.inr (slot_ne (Or.inr (hw _ (List.mem_of_getElem? (i := 13) rfl))) (Or.inl (hw _ (List.mem_of_getElem? (i := 20) rfl))) (by decide) (t := (.array .int)) (t' := .int) (by decide) (by decide)))
  replace A_r := A_r.other W1 (Ne.symm ne_a_r)
  replace A_q := A_q.other W1 (Ne.symm ne_a_q)
  replace F_a_size := F1_
  replace Z_ : n0 ≤ _ := Nat.le_trans Z_ (Nat.le_of_eq W1.size.symm)
  replace K_ := K_.wr W1 (Or.inl (List.mem_of_getElem? (i := 0) rfl))
  refine own_istoreN (pc' := 12) (y := (1 : Int32)) (Ls' := #[.val (.ref a), .val (.int u), .val (.int (1 : Int32))]) C d3_11 rfl rfl rfl ?_
  refine own_iloadN (pc' := 13) C d3_12 rfl rfl ?_
  refine own_if_le (pt := 65) (pf := 16) C d3_13 (by decide) (by decide) rfl (fun q => absurd (by decide) q) (fun _ => ?_)
  refine own_aloadN (pc' := 17) C d3_16 rfl rfl rfl ?_
  refine own_getfield (pc' := 20) C d3_17 (hw _ (List.mem_of_getElem? (i := 10) rfl)) F_a_rank rfl ?_
  refine own_aloadN (pc' := 21) C d3_20 rfl rfl rfl ?_
  refine own_getfield (pc' := 24) C d3_21 (hw _ (List.mem_of_getElem? (i := 12) rfl)) F_a_heap rfl ?_
  refine own_iloadN (pc' := 25) C d3_24 rfl rfl ?_
  refine own_iconst (pc' := 26) (v := (1 : Int32)) C d3_25 own_ki_1 rfl ?_
  refine own_isub (pc' := 27) (v := (0 : Int32)) C d3_26 (by decide) rfl ?_
  refine own_iconst (pc' := 28) (v := (2 : Int32)) C d3_27 own_ki_2 rfl ?_
  refine own_idiv (pc' := 29) (v := (0 : Int32)) C d3_28 (by decide) (by decide) rfl ?_
  refine own_iaload (pc' := 30) (v := x0_) (i := 0) C d3_29 A_q (by decide) rfl rfl rfl ?_
  refine own_iaload (pc' := 31) (v := (own_rk [r0_, r1_, r2_, r3_, r4_] x0_)) (i := x0_.toNatClampNeg) C d3_30 A_r hi_x0_.1 rfl (own_get hi_x0_) rfl ?_
  refine own_aloadN (pc' := 32) C d3_31 rfl rfl rfl ?_
  refine own_getfield (pc' := 35) C d3_32 (hw _ (List.mem_of_getElem? (i := 10) rfl)) F_a_rank rfl ?_
  refine own_iloadN (pc' := 36) C d3_35 rfl rfl ?_
  refine own_iaload (pc' := 37) (v := (own_rk [r0_, r1_, r2_, r3_, r4_] u)) (i := u.toNatClampNeg) C d3_36 A_r hi_u.1 rfl (own_get hi_u) rfl ?_
  refine own_icmp_le (pt := 65) (pf := 40) C d3_37 (by decide) (by decide) rfl ?_ ?_
  · intro hc37
    refine own_aloadN (pc' := 66) C d3_65 rfl rfl rfl ?_
    refine own_getfield (pc' := 69) C d3_66 (hw _ (List.mem_of_getElem? (i := 12) rfl)) F_a_heap rfl ?_
    refine own_iloadN (pc' := 70) C d3_69 rfl rfl ?_
    refine own_iloadN (pc' := 71) C d3_70 rfl rfl ?_
    refine own_iastore (pc' := 72) (i := 1) (ys := [x0_, u, x2_, x3_, x4_]) C d3_71 A_q (by decide) rfl (Nat.le_of_ble_eq_true rfl) rfl g_q rfl ?_
    intro h2 W2 A2_
    replace E_a := E_a.wr W2
    replace F_a_rank := F_a_rank.other W2 (Or.inl ne_a_q)
    replace F_a_heap := F_a_heap.other W2 (Or.inl ne_a_q)
    replace F_a_size := F_a_size.other W2 (Or.inl ne_a_q)
    replace A_r := A_r.other W2 ne_r_q
    replace A_q := A2_
    replace Z_ : n0 ≤ _ := Nat.le_trans Z_ (Nat.le_of_eq W2.size.symm)
    replace K_ := K_.wr W2 (Or.inl (List.mem_of_getElem? (i := 1) rfl))
    refine own_vret C d3_72 (by decide) (by decide) ?_
    have l_hc37 : own_lt [r0_, r1_, r2_, r3_, r4_] u x0_ = false := by simp [own_lt, hc37]
    refine ⟨rfl, K_, F_a_rank, F_a_heap, F_a_size, ?_⟩
    simp only [own_p1, l_hc37, if_true, if_false, Bool.false_eq_true]; exact A_q
  · intro hc37
    refine own_aloadN (pc' := 41) C d3_40 rfl rfl rfl ?_
    refine own_getfield (pc' := 44) C d3_41 (hw _ (List.mem_of_getElem? (i := 12) rfl)) F_a_heap rfl ?_
    refine own_iloadN (pc' := 45) C d3_44 rfl rfl ?_
    refine own_aloadN (pc' := 46) C d3_45 rfl rfl rfl ?_
    refine own_getfield (pc' := 49) C d3_46 (hw _ (List.mem_of_getElem? (i := 12) rfl)) F_a_heap rfl ?_
    refine own_iloadN (pc' := 50) C d3_49 rfl rfl ?_
    refine own_iconst (pc' := 51) (v := (1 : Int32)) C d3_50 own_ki_1 rfl ?_
    refine own_isub (pc' := 52) (v := (0 : Int32)) C d3_51 (by decide) rfl ?_
    refine own_iconst (pc' := 53) (v := (2 : Int32)) C d3_52 own_ki_2 rfl ?_
    refine own_idiv (pc' := 54) (v := (0 : Int32)) C d3_53 (by decide) (by decide) rfl ?_
    refine own_iaload (pc' := 55) (v := x0_) (i := 0) C d3_54 A_q (by decide) rfl rfl rfl ?_
    refine own_iastore (pc' := 56) (i := 1) (ys := [x0_, x0_, x2_, x3_, x4_]) C d3_55 A_q (by decide) rfl (Nat.le_of_ble_eq_true rfl) rfl g_q rfl ?_
    intro h2 W2 A2_
    replace E_a := E_a.wr W2
    replace F_a_rank := F_a_rank.other W2 (Or.inl ne_a_q)
    replace F_a_heap := F_a_heap.other W2 (Or.inl ne_a_q)
    replace F_a_size := F_a_size.other W2 (Or.inl ne_a_q)
    replace A_r := A_r.other W2 ne_r_q
    replace A_q := A2_
    replace Z_ : n0 ≤ _ := Nat.le_trans Z_ (Nat.le_of_eq W2.size.symm)
    replace K_ := K_.wr W2 (Or.inl (List.mem_of_getElem? (i := 1) rfl))
    refine own_iloadN (pc' := 57) C d3_56 rfl rfl ?_
    refine own_iconst (pc' := 58) (v := (1 : Int32)) C d3_57 own_ki_1 rfl ?_
    refine own_isub (pc' := 59) (v := (0 : Int32)) C d3_58 (by decide) rfl ?_
    refine own_iconst (pc' := 60) (v := (2 : Int32)) C d3_59 own_ki_2 rfl ?_
    refine own_idiv (pc' := 61) (v := (0 : Int32)) C d3_60 (by decide) (by decide) rfl ?_
    refine own_istoreN (pc' := 62) (y := (0 : Int32)) (Ls' := #[.val (.ref a), .val (.int u), .val (.int (0 : Int32))]) C d3_61 rfl rfl rfl ?_
    refine own_goto (pc' := 12) C d3_62 (by decide) (by decide) ?_
    refine own_iloadN (pc' := 13) C d3_12 rfl rfl ?_
    refine own_if_le (pt := 65) (pf := 16) C d3_13 (by decide) (by decide) rfl (fun _ => ?_) (fun q => absurd q (by decide))
    refine own_aloadN (pc' := 66) C d3_65 rfl rfl rfl ?_
    refine own_getfield (pc' := 69) C d3_66 (hw _ (List.mem_of_getElem? (i := 12) rfl)) F_a_heap rfl ?_
    refine own_iloadN (pc' := 70) C d3_69 rfl rfl ?_
    refine own_iloadN (pc' := 71) C d3_70 rfl rfl ?_
    refine own_iastore (pc' := 72) (i := 0) (ys := [u, x0_, x2_, x3_, x4_]) C d3_71 A_q (by decide) rfl (Nat.le_of_ble_eq_true rfl) rfl g_q rfl ?_
    intro h3 W3 A3_
    replace E_a := E_a.wr W3
    replace F_a_rank := F_a_rank.other W3 (Or.inl ne_a_q)
    replace F_a_heap := F_a_heap.other W3 (Or.inl ne_a_q)
    replace F_a_size := F_a_size.other W3 (Or.inl ne_a_q)
    replace A_r := A_r.other W3 ne_r_q
    replace A_q := A3_
    replace Z_ : n0 ≤ _ := Nat.le_trans Z_ (Nat.le_of_eq W3.size.symm)
    replace K_ := K_.wr W3 (Or.inl (List.mem_of_getElem? (i := 1) rfl))
    refine own_vret C d3_72 (by decide) (by decide) ?_
    have l_hc37 : own_lt [r0_, r1_, r2_, r3_, r4_] u x0_ = true := by simp [own_lt, hc37]
    refine ⟨rfl, K_, F_a_rank, F_a_heap, F_a_size, ?_⟩
    simp only [own_p1, l_hc37, if_true, if_false, Bool.false_eq_true]; exact A_q

set_option maxRecDepth 65536 in
set_option maxHeartbeats 40000000 in
theorem own_add2 (l : Launch) (Z : State) (a0 : Array Value) (hw : ∀ d ∈ tables_1, d.before a0 Z = true) (a : Addr) (u : Int32) (r q : Addr) (r0_ r1_ r2_ r3_ r4_ x0_ x1_ x2_ x3_ x4_ : Int32) (h0 : Heap) (n0 : Nat) (Z_ : n0 ≤ h0.size) (E_a : Exa Z h0 a "com/example/precedence/precedence/IntHeap") (F_a_rank : Fld Z h0 a "com/example/precedence/precedence/IntHeap" "rank" "[I" (.ref r)) (F_a_heap : Fld Z h0 a "com/example/precedence/precedence/IntHeap" "heap" "[I" (.ref q)) (F_a_size : Fld Z h0 a "com/example/precedence/precedence/IntHeap" "size" "I" (.int (2 : Int32))) (g_a : n0 ≤ a) (A_r : AI Z h0 r .int [r0_, r1_, r2_, r3_, r4_]) (A_q : AI Z h0 q .int [x0_, x1_, x2_, x3_, x4_]) (g_q : n0 ≤ q) (ne_a_r : a ≠ r) (ne_a_q : a ≠ q) (ne_r_q : r ≠ q) (hi_x0_ : own_in x0_) (hi_x1_ : own_in x1_) (hi_u : own_in u) :
    Met l (⟨"com/example/precedence/precedence/IntHeap", "add", "(I)V"⟩ : MethodName) prog_28_method_3_code 3 none [] ({ frames := 0, cells := 0, slots := 0, locals := 0 } : Room) Z n0 #[(.ref a), (.int u)] h0 (fun v h => v = none ∧ Keep h0 h [a, q] ∧ Fld Z h a "com/example/precedence/precedence/IntHeap" "rank" "[I" (.ref r) ∧ Fld Z h a "com/example/precedence/precedence/IntHeap" "heap" "[I" (.ref q) ∧ Fld Z h a "com/example/precedence/precedence/IntHeap" "size" "I" (.int (3 : Int32)) ∧ AI Z h q .int [(own_p2 (own_lt [r0_, r1_, r2_, r3_, r4_]) x0_ x1_ u).1, (own_p2 (own_lt [r0_, r1_, r2_, r3_, r4_]) x0_ x1_ u).2.1, (own_p2 (own_lt [r0_, r1_, r2_, r3_, r4_]) x0_ x1_ u).2.2, x3_, x4_]) := by
  refine own_met pn3 (fun m => ef3 m a u) ?_
  intro p e s m below meth c C
  have K_ : Keep h0 h0 [a, q] := Keep.refl _ _
  refine own_aloadN (pc' := 1) C d3_0 rfl rfl rfl ?_
  refine own_dup (pc' := 2) C d3_1 rfl rfl ?_
  refine own_getfield (pc' := 5) C d3_2 (hw _ (List.mem_of_getElem? (i := 19) rfl)) F_a_size rfl ?_
  refine own_dupX1 (pc' := 6) C d3_5 rfl rfl rfl ?_
  refine own_iconst (pc' := 7) (v := (1 : Int32)) C d3_6 own_ki_1 rfl ?_
  refine own_iadd (pc' := 8) (v := (3 : Int32)) C d3_7 (by decide) rfl ?_
  refine own_putfield (pc' := 11) C d3_8 (hw _ (List.mem_of_getElem? (i := 19) rfl)) F_a_size E_a (Or.inl (hw _ (List.mem_of_getElem? (i := 20) rfl))) (hw _ (List.mem_of_getElem? (i := 2) rfl)) (ty := .int) (by decide) rfl rfl g_a rfl ?_
  intro h1 W1 F1_
  replace E_a := E_a.wr W1
  replace F_a_rank := F_a_rank.other W1 (Or.inr (slot_ne (Or.inr (hw _ (List.mem_of_getElem? (i := 11) rfl))) (Or.inl (hw _ (List.mem_of_getElem? (i := 20) rfl))) (by decide) (t := (.array .int)) (t' := .int) (by decide) (by decide)))
  replace F_a_heap := F_a_heap.other W1 (Or.inr (slot_ne (Or.inr (hw _ (List.mem_of_getElem? (i := 13) rfl))) (Or.inl (hw _ (List.mem_of_getElem? (i := 20) rfl))) (by decide) (t := (.array .int)) (t' := .int) (by decide) (by decide)))
  replace A_r := A_r.other W1 (Ne.symm ne_a_r)
  replace A_q := A_q.other W1 (Ne.symm ne_a_q)
  replace F_a_size := F1_
  replace Z_ : n0 ≤ _ := Nat.le_trans Z_ (Nat.le_of_eq W1.size.symm)
  replace K_ := K_.wr W1 (Or.inl (List.mem_of_getElem? (i := 0) rfl))
  refine own_istoreN (pc' := 12) (y := (2 : Int32)) (Ls' := #[.val (.ref a), .val (.int u), .val (.int (2 : Int32))]) C d3_11 rfl rfl rfl ?_
  refine own_iloadN (pc' := 13) C d3_12 rfl rfl ?_
  refine own_if_le (pt := 65) (pf := 16) C d3_13 (by decide) (by decide) rfl (fun q => absurd (by decide) q) (fun _ => ?_)
  refine own_aloadN (pc' := 17) C d3_16 rfl rfl rfl ?_
  refine own_getfield (pc' := 20) C d3_17 (hw _ (List.mem_of_getElem? (i := 10) rfl)) F_a_rank rfl ?_
  refine own_aloadN (pc' := 21) C d3_20 rfl rfl rfl ?_
  refine own_getfield (pc' := 24) C d3_21 (hw _ (List.mem_of_getElem? (i := 12) rfl)) F_a_heap rfl ?_
  refine own_iloadN (pc' := 25) C d3_24 rfl rfl ?_
  refine own_iconst (pc' := 26) (v := (1 : Int32)) C d3_25 own_ki_1 rfl ?_
  refine own_isub (pc' := 27) (v := (1 : Int32)) C d3_26 (by decide) rfl ?_
  refine own_iconst (pc' := 28) (v := (2 : Int32)) C d3_27 own_ki_2 rfl ?_
  refine own_idiv (pc' := 29) (v := (0 : Int32)) C d3_28 (by decide) (by decide) rfl ?_
  refine own_iaload (pc' := 30) (v := x0_) (i := 0) C d3_29 A_q (by decide) rfl rfl rfl ?_
  refine own_iaload (pc' := 31) (v := (own_rk [r0_, r1_, r2_, r3_, r4_] x0_)) (i := x0_.toNatClampNeg) C d3_30 A_r hi_x0_.1 rfl (own_get hi_x0_) rfl ?_
  refine own_aloadN (pc' := 32) C d3_31 rfl rfl rfl ?_
  refine own_getfield (pc' := 35) C d3_32 (hw _ (List.mem_of_getElem? (i := 10) rfl)) F_a_rank rfl ?_
  refine own_iloadN (pc' := 36) C d3_35 rfl rfl ?_
  refine own_iaload (pc' := 37) (v := (own_rk [r0_, r1_, r2_, r3_, r4_] u)) (i := u.toNatClampNeg) C d3_36 A_r hi_u.1 rfl (own_get hi_u) rfl ?_
  refine own_icmp_le (pt := 65) (pf := 40) C d3_37 (by decide) (by decide) rfl ?_ ?_
  · intro hc37
    refine own_aloadN (pc' := 66) C d3_65 rfl rfl rfl ?_
    refine own_getfield (pc' := 69) C d3_66 (hw _ (List.mem_of_getElem? (i := 12) rfl)) F_a_heap rfl ?_
    refine own_iloadN (pc' := 70) C d3_69 rfl rfl ?_
    refine own_iloadN (pc' := 71) C d3_70 rfl rfl ?_
    refine own_iastore (pc' := 72) (i := 2) (ys := [x0_, x1_, u, x3_, x4_]) C d3_71 A_q (by decide) rfl (Nat.le_of_ble_eq_true rfl) rfl g_q rfl ?_
    intro h2 W2 A2_
    replace E_a := E_a.wr W2
    replace F_a_rank := F_a_rank.other W2 (Or.inl ne_a_q)
    replace F_a_heap := F_a_heap.other W2 (Or.inl ne_a_q)
    replace F_a_size := F_a_size.other W2 (Or.inl ne_a_q)
    replace A_r := A_r.other W2 ne_r_q
    replace A_q := A2_
    replace Z_ : n0 ≤ _ := Nat.le_trans Z_ (Nat.le_of_eq W2.size.symm)
    replace K_ := K_.wr W2 (Or.inl (List.mem_of_getElem? (i := 1) rfl))
    refine own_vret C d3_72 (by decide) (by decide) ?_
    have l_hc37 : own_lt [r0_, r1_, r2_, r3_, r4_] u x0_ = false := by simp [own_lt, hc37]
    refine ⟨rfl, K_, F_a_rank, F_a_heap, F_a_size, ?_⟩
    simp only [own_p2, l_hc37, if_true, if_false, Bool.false_eq_true]; exact A_q
  · intro hc37
    refine own_aloadN (pc' := 41) C d3_40 rfl rfl rfl ?_
    refine own_getfield (pc' := 44) C d3_41 (hw _ (List.mem_of_getElem? (i := 12) rfl)) F_a_heap rfl ?_
    refine own_iloadN (pc' := 45) C d3_44 rfl rfl ?_
    refine own_aloadN (pc' := 46) C d3_45 rfl rfl rfl ?_
    refine own_getfield (pc' := 49) C d3_46 (hw _ (List.mem_of_getElem? (i := 12) rfl)) F_a_heap rfl ?_
    refine own_iloadN (pc' := 50) C d3_49 rfl rfl ?_
    refine own_iconst (pc' := 51) (v := (1 : Int32)) C d3_50 own_ki_1 rfl ?_
    refine own_isub (pc' := 52) (v := (1 : Int32)) C d3_51 (by decide) rfl ?_
    refine own_iconst (pc' := 53) (v := (2 : Int32)) C d3_52 own_ki_2 rfl ?_
    refine own_idiv (pc' := 54) (v := (0 : Int32)) C d3_53 (by decide) (by decide) rfl ?_
    refine own_iaload (pc' := 55) (v := x0_) (i := 0) C d3_54 A_q (by decide) rfl rfl rfl ?_
    refine own_iastore (pc' := 56) (i := 2) (ys := [x0_, x1_, x0_, x3_, x4_]) C d3_55 A_q (by decide) rfl (Nat.le_of_ble_eq_true rfl) rfl g_q rfl ?_
    intro h2 W2 A2_
    replace E_a := E_a.wr W2
    replace F_a_rank := F_a_rank.other W2 (Or.inl ne_a_q)
    replace F_a_heap := F_a_heap.other W2 (Or.inl ne_a_q)
    replace F_a_size := F_a_size.other W2 (Or.inl ne_a_q)
    replace A_r := A_r.other W2 ne_r_q
    replace A_q := A2_
    replace Z_ : n0 ≤ _ := Nat.le_trans Z_ (Nat.le_of_eq W2.size.symm)
    replace K_ := K_.wr W2 (Or.inl (List.mem_of_getElem? (i := 1) rfl))
    refine own_iloadN (pc' := 57) C d3_56 rfl rfl ?_
    refine own_iconst (pc' := 58) (v := (1 : Int32)) C d3_57 own_ki_1 rfl ?_
    refine own_isub (pc' := 59) (v := (1 : Int32)) C d3_58 (by decide) rfl ?_
    refine own_iconst (pc' := 60) (v := (2 : Int32)) C d3_59 own_ki_2 rfl ?_
    refine own_idiv (pc' := 61) (v := (0 : Int32)) C d3_60 (by decide) (by decide) rfl ?_
    refine own_istoreN (pc' := 62) (y := (0 : Int32)) (Ls' := #[.val (.ref a), .val (.int u), .val (.int (0 : Int32))]) C d3_61 rfl rfl rfl ?_
    refine own_goto (pc' := 12) C d3_62 (by decide) (by decide) ?_
    refine own_iloadN (pc' := 13) C d3_12 rfl rfl ?_
    refine own_if_le (pt := 65) (pf := 16) C d3_13 (by decide) (by decide) rfl (fun _ => ?_) (fun q => absurd q (by decide))
    refine own_aloadN (pc' := 66) C d3_65 rfl rfl rfl ?_
    refine own_getfield (pc' := 69) C d3_66 (hw _ (List.mem_of_getElem? (i := 12) rfl)) F_a_heap rfl ?_
    refine own_iloadN (pc' := 70) C d3_69 rfl rfl ?_
    refine own_iloadN (pc' := 71) C d3_70 rfl rfl ?_
    refine own_iastore (pc' := 72) (i := 0) (ys := [u, x1_, x0_, x3_, x4_]) C d3_71 A_q (by decide) rfl (Nat.le_of_ble_eq_true rfl) rfl g_q rfl ?_
    intro h3 W3 A3_
    replace E_a := E_a.wr W3
    replace F_a_rank := F_a_rank.other W3 (Or.inl ne_a_q)
    replace F_a_heap := F_a_heap.other W3 (Or.inl ne_a_q)
    replace F_a_size := F_a_size.other W3 (Or.inl ne_a_q)
    replace A_r := A_r.other W3 ne_r_q
    replace A_q := A3_
    replace Z_ : n0 ≤ _ := Nat.le_trans Z_ (Nat.le_of_eq W3.size.symm)
    replace K_ := K_.wr W3 (Or.inl (List.mem_of_getElem? (i := 1) rfl))
    refine own_vret C d3_72 (by decide) (by decide) ?_
    have l_hc37 : own_lt [r0_, r1_, r2_, r3_, r4_] u x0_ = true := by simp [own_lt, hc37]
    refine ⟨rfl, K_, F_a_rank, F_a_heap, F_a_size, ?_⟩
    simp only [own_p2, l_hc37, if_true, if_false, Bool.false_eq_true]; exact A_q

set_option maxRecDepth 65536 in
set_option maxHeartbeats 40000000 in
theorem own_add3 (l : Launch) (Z : State) (a0 : Array Value) (hw : ∀ d ∈ tables_1, d.before a0 Z = true) (a : Addr) (u : Int32) (r q : Addr) (r0_ r1_ r2_ r3_ r4_ x0_ x1_ x2_ x3_ x4_ : Int32) (h0 : Heap) (n0 : Nat) (Z_ : n0 ≤ h0.size) (E_a : Exa Z h0 a "com/example/precedence/precedence/IntHeap") (F_a_rank : Fld Z h0 a "com/example/precedence/precedence/IntHeap" "rank" "[I" (.ref r)) (F_a_heap : Fld Z h0 a "com/example/precedence/precedence/IntHeap" "heap" "[I" (.ref q)) (F_a_size : Fld Z h0 a "com/example/precedence/precedence/IntHeap" "size" "I" (.int (3 : Int32))) (g_a : n0 ≤ a) (A_r : AI Z h0 r .int [r0_, r1_, r2_, r3_, r4_]) (A_q : AI Z h0 q .int [x0_, x1_, x2_, x3_, x4_]) (g_q : n0 ≤ q) (ne_a_r : a ≠ r) (ne_a_q : a ≠ q) (ne_r_q : r ≠ q) (hi_x0_ : own_in x0_) (hi_x1_ : own_in x1_) (hi_x2_ : own_in x2_) (hi_u : own_in u) :
    Met l (⟨"com/example/precedence/precedence/IntHeap", "add", "(I)V"⟩ : MethodName) prog_28_method_3_code 3 none [] ({ frames := 0, cells := 0, slots := 0, locals := 0 } : Room) Z n0 #[(.ref a), (.int u)] h0 (fun v h => v = none ∧ Keep h0 h [a, q] ∧ Fld Z h a "com/example/precedence/precedence/IntHeap" "rank" "[I" (.ref r) ∧ Fld Z h a "com/example/precedence/precedence/IntHeap" "heap" "[I" (.ref q) ∧ Fld Z h a "com/example/precedence/precedence/IntHeap" "size" "I" (.int (4 : Int32)) ∧ AI Z h q .int [(own_p3 (own_lt [r0_, r1_, r2_, r3_, r4_]) x0_ x1_ x2_ u).1, (own_p3 (own_lt [r0_, r1_, r2_, r3_, r4_]) x0_ x1_ x2_ u).2.1, (own_p3 (own_lt [r0_, r1_, r2_, r3_, r4_]) x0_ x1_ x2_ u).2.2.1, (own_p3 (own_lt [r0_, r1_, r2_, r3_, r4_]) x0_ x1_ x2_ u).2.2.2, x4_]) := by
  refine own_met pn3 (fun m => ef3 m a u) ?_
  intro p e s m below meth c C
  have K_ : Keep h0 h0 [a, q] := Keep.refl _ _
  refine own_aloadN (pc' := 1) C d3_0 rfl rfl rfl ?_
  refine own_dup (pc' := 2) C d3_1 rfl rfl ?_
  refine own_getfield (pc' := 5) C d3_2 (hw _ (List.mem_of_getElem? (i := 19) rfl)) F_a_size rfl ?_
  refine own_dupX1 (pc' := 6) C d3_5 rfl rfl rfl ?_
  refine own_iconst (pc' := 7) (v := (1 : Int32)) C d3_6 own_ki_1 rfl ?_
  refine own_iadd (pc' := 8) (v := (4 : Int32)) C d3_7 (by decide) rfl ?_
  refine own_putfield (pc' := 11) C d3_8 (hw _ (List.mem_of_getElem? (i := 19) rfl)) F_a_size E_a (Or.inl (hw _ (List.mem_of_getElem? (i := 20) rfl))) (hw _ (List.mem_of_getElem? (i := 2) rfl)) (ty := .int) (by decide) rfl rfl g_a rfl ?_
  intro h1 W1 F1_
  replace E_a := E_a.wr W1
  replace F_a_rank := F_a_rank.other W1 (Or.inr (slot_ne (Or.inr (hw _ (List.mem_of_getElem? (i := 11) rfl))) (Or.inl (hw _ (List.mem_of_getElem? (i := 20) rfl))) (by decide) (t := (.array .int)) (t' := .int) (by decide) (by decide)))
  replace F_a_heap := F_a_heap.other W1 (Or.inr (slot_ne (Or.inr (hw _ (List.mem_of_getElem? (i := 13) rfl))) (Or.inl (hw _ (List.mem_of_getElem? (i := 20) rfl))) (by decide) (t := (.array .int)) (t' := .int) (by decide) (by decide)))
  replace A_r := A_r.other W1 (Ne.symm ne_a_r)
  replace A_q := A_q.other W1 (Ne.symm ne_a_q)
  replace F_a_size := F1_
  replace Z_ : n0 ≤ _ := Nat.le_trans Z_ (Nat.le_of_eq W1.size.symm)
  replace K_ := K_.wr W1 (Or.inl (List.mem_of_getElem? (i := 0) rfl))
  refine own_istoreN (pc' := 12) (y := (3 : Int32)) (Ls' := #[.val (.ref a), .val (.int u), .val (.int (3 : Int32))]) C d3_11 rfl rfl rfl ?_
  refine own_iloadN (pc' := 13) C d3_12 rfl rfl ?_
  refine own_if_le (pt := 65) (pf := 16) C d3_13 (by decide) (by decide) rfl (fun q => absurd (by decide) q) (fun _ => ?_)
  refine own_aloadN (pc' := 17) C d3_16 rfl rfl rfl ?_
  refine own_getfield (pc' := 20) C d3_17 (hw _ (List.mem_of_getElem? (i := 10) rfl)) F_a_rank rfl ?_
  refine own_aloadN (pc' := 21) C d3_20 rfl rfl rfl ?_
  refine own_getfield (pc' := 24) C d3_21 (hw _ (List.mem_of_getElem? (i := 12) rfl)) F_a_heap rfl ?_
  refine own_iloadN (pc' := 25) C d3_24 rfl rfl ?_
  refine own_iconst (pc' := 26) (v := (1 : Int32)) C d3_25 own_ki_1 rfl ?_
  refine own_isub (pc' := 27) (v := (2 : Int32)) C d3_26 (by decide) rfl ?_
  refine own_iconst (pc' := 28) (v := (2 : Int32)) C d3_27 own_ki_2 rfl ?_
  refine own_idiv (pc' := 29) (v := (1 : Int32)) C d3_28 (by decide) (by decide) rfl ?_
  refine own_iaload (pc' := 30) (v := x1_) (i := 1) C d3_29 A_q (by decide) rfl rfl rfl ?_
  refine own_iaload (pc' := 31) (v := (own_rk [r0_, r1_, r2_, r3_, r4_] x1_)) (i := x1_.toNatClampNeg) C d3_30 A_r hi_x1_.1 rfl (own_get hi_x1_) rfl ?_
  refine own_aloadN (pc' := 32) C d3_31 rfl rfl rfl ?_
  refine own_getfield (pc' := 35) C d3_32 (hw _ (List.mem_of_getElem? (i := 10) rfl)) F_a_rank rfl ?_
  refine own_iloadN (pc' := 36) C d3_35 rfl rfl ?_
  refine own_iaload (pc' := 37) (v := (own_rk [r0_, r1_, r2_, r3_, r4_] u)) (i := u.toNatClampNeg) C d3_36 A_r hi_u.1 rfl (own_get hi_u) rfl ?_
  refine own_icmp_le (pt := 65) (pf := 40) C d3_37 (by decide) (by decide) rfl ?_ ?_
  · intro hc37
    refine own_aloadN (pc' := 66) C d3_65 rfl rfl rfl ?_
    refine own_getfield (pc' := 69) C d3_66 (hw _ (List.mem_of_getElem? (i := 12) rfl)) F_a_heap rfl ?_
    refine own_iloadN (pc' := 70) C d3_69 rfl rfl ?_
    refine own_iloadN (pc' := 71) C d3_70 rfl rfl ?_
    refine own_iastore (pc' := 72) (i := 3) (ys := [x0_, x1_, x2_, u, x4_]) C d3_71 A_q (by decide) rfl (Nat.le_of_ble_eq_true rfl) rfl g_q rfl ?_
    intro h2 W2 A2_
    replace E_a := E_a.wr W2
    replace F_a_rank := F_a_rank.other W2 (Or.inl ne_a_q)
    replace F_a_heap := F_a_heap.other W2 (Or.inl ne_a_q)
    replace F_a_size := F_a_size.other W2 (Or.inl ne_a_q)
    replace A_r := A_r.other W2 ne_r_q
    replace A_q := A2_
    replace Z_ : n0 ≤ _ := Nat.le_trans Z_ (Nat.le_of_eq W2.size.symm)
    replace K_ := K_.wr W2 (Or.inl (List.mem_of_getElem? (i := 1) rfl))
    refine own_vret C d3_72 (by decide) (by decide) ?_
    have l_hc37 : own_lt [r0_, r1_, r2_, r3_, r4_] u x1_ = false := by simp [own_lt, hc37]
    refine ⟨rfl, K_, F_a_rank, F_a_heap, F_a_size, ?_⟩
    simp only [own_p3, l_hc37, if_true, if_false, Bool.false_eq_true]; exact A_q
  · intro hc37
    refine own_aloadN (pc' := 41) C d3_40 rfl rfl rfl ?_
    refine own_getfield (pc' := 44) C d3_41 (hw _ (List.mem_of_getElem? (i := 12) rfl)) F_a_heap rfl ?_
    refine own_iloadN (pc' := 45) C d3_44 rfl rfl ?_
    refine own_aloadN (pc' := 46) C d3_45 rfl rfl rfl ?_
    refine own_getfield (pc' := 49) C d3_46 (hw _ (List.mem_of_getElem? (i := 12) rfl)) F_a_heap rfl ?_
    refine own_iloadN (pc' := 50) C d3_49 rfl rfl ?_
    refine own_iconst (pc' := 51) (v := (1 : Int32)) C d3_50 own_ki_1 rfl ?_
    refine own_isub (pc' := 52) (v := (2 : Int32)) C d3_51 (by decide) rfl ?_
    refine own_iconst (pc' := 53) (v := (2 : Int32)) C d3_52 own_ki_2 rfl ?_
    refine own_idiv (pc' := 54) (v := (1 : Int32)) C d3_53 (by decide) (by decide) rfl ?_
    refine own_iaload (pc' := 55) (v := x1_) (i := 1) C d3_54 A_q (by decide) rfl rfl rfl ?_
    refine own_iastore (pc' := 56) (i := 3) (ys := [x0_, x1_, x2_, x1_, x4_]) C d3_55 A_q (by decide) rfl (Nat.le_of_ble_eq_true rfl) rfl g_q rfl ?_
    intro h2 W2 A2_
    replace E_a := E_a.wr W2
    replace F_a_rank := F_a_rank.other W2 (Or.inl ne_a_q)
    replace F_a_heap := F_a_heap.other W2 (Or.inl ne_a_q)
    replace F_a_size := F_a_size.other W2 (Or.inl ne_a_q)
    replace A_r := A_r.other W2 ne_r_q
    replace A_q := A2_
    replace Z_ : n0 ≤ _ := Nat.le_trans Z_ (Nat.le_of_eq W2.size.symm)
    replace K_ := K_.wr W2 (Or.inl (List.mem_of_getElem? (i := 1) rfl))
    refine own_iloadN (pc' := 57) C d3_56 rfl rfl ?_
    refine own_iconst (pc' := 58) (v := (1 : Int32)) C d3_57 own_ki_1 rfl ?_
    refine own_isub (pc' := 59) (v := (2 : Int32)) C d3_58 (by decide) rfl ?_
    refine own_iconst (pc' := 60) (v := (2 : Int32)) C d3_59 own_ki_2 rfl ?_
    refine own_idiv (pc' := 61) (v := (1 : Int32)) C d3_60 (by decide) (by decide) rfl ?_
    refine own_istoreN (pc' := 62) (y := (1 : Int32)) (Ls' := #[.val (.ref a), .val (.int u), .val (.int (1 : Int32))]) C d3_61 rfl rfl rfl ?_
    refine own_goto (pc' := 12) C d3_62 (by decide) (by decide) ?_
    refine own_iloadN (pc' := 13) C d3_12 rfl rfl ?_
    refine own_if_le (pt := 65) (pf := 16) C d3_13 (by decide) (by decide) rfl (fun q => absurd (by decide) q) (fun _ => ?_)
    refine own_aloadN (pc' := 17) C d3_16 rfl rfl rfl ?_
    refine own_getfield (pc' := 20) C d3_17 (hw _ (List.mem_of_getElem? (i := 10) rfl)) F_a_rank rfl ?_
    refine own_aloadN (pc' := 21) C d3_20 rfl rfl rfl ?_
    refine own_getfield (pc' := 24) C d3_21 (hw _ (List.mem_of_getElem? (i := 12) rfl)) F_a_heap rfl ?_
    refine own_iloadN (pc' := 25) C d3_24 rfl rfl ?_
    refine own_iconst (pc' := 26) (v := (1 : Int32)) C d3_25 own_ki_1 rfl ?_
    refine own_isub (pc' := 27) (v := (0 : Int32)) C d3_26 (by decide) rfl ?_
    refine own_iconst (pc' := 28) (v := (2 : Int32)) C d3_27 own_ki_2 rfl ?_
    refine own_idiv (pc' := 29) (v := (0 : Int32)) C d3_28 (by decide) (by decide) rfl ?_
    refine own_iaload (pc' := 30) (v := x0_) (i := 0) C d3_29 A_q (by decide) rfl rfl rfl ?_
    refine own_iaload (pc' := 31) (v := (own_rk [r0_, r1_, r2_, r3_, r4_] x0_)) (i := x0_.toNatClampNeg) C d3_30 A_r hi_x0_.1 rfl (own_get hi_x0_) rfl ?_
    refine own_aloadN (pc' := 32) C d3_31 rfl rfl rfl ?_
    refine own_getfield (pc' := 35) C d3_32 (hw _ (List.mem_of_getElem? (i := 10) rfl)) F_a_rank rfl ?_
    refine own_iloadN (pc' := 36) C d3_35 rfl rfl ?_
    refine own_iaload (pc' := 37) (v := (own_rk [r0_, r1_, r2_, r3_, r4_] u)) (i := u.toNatClampNeg) C d3_36 A_r hi_u.1 rfl (own_get hi_u) rfl ?_
    refine own_icmp_le (pt := 65) (pf := 40) C d3_37 (by decide) (by decide) rfl ?_ ?_
    · intro hc37_2
      refine own_aloadN (pc' := 66) C d3_65 rfl rfl rfl ?_
      refine own_getfield (pc' := 69) C d3_66 (hw _ (List.mem_of_getElem? (i := 12) rfl)) F_a_heap rfl ?_
      refine own_iloadN (pc' := 70) C d3_69 rfl rfl ?_
      refine own_iloadN (pc' := 71) C d3_70 rfl rfl ?_
      refine own_iastore (pc' := 72) (i := 1) (ys := [x0_, u, x2_, x1_, x4_]) C d3_71 A_q (by decide) rfl (Nat.le_of_ble_eq_true rfl) rfl g_q rfl ?_
      intro h3 W3 A3_
      replace E_a := E_a.wr W3
      replace F_a_rank := F_a_rank.other W3 (Or.inl ne_a_q)
      replace F_a_heap := F_a_heap.other W3 (Or.inl ne_a_q)
      replace F_a_size := F_a_size.other W3 (Or.inl ne_a_q)
      replace A_r := A_r.other W3 ne_r_q
      replace A_q := A3_
      replace Z_ : n0 ≤ _ := Nat.le_trans Z_ (Nat.le_of_eq W3.size.symm)
      replace K_ := K_.wr W3 (Or.inl (List.mem_of_getElem? (i := 1) rfl))
      refine own_vret C d3_72 (by decide) (by decide) ?_
      have l_hc37 : own_lt [r0_, r1_, r2_, r3_, r4_] u x1_ = true := by simp [own_lt, hc37]
      have l_hc37_2 : own_lt [r0_, r1_, r2_, r3_, r4_] u x0_ = false := by simp [own_lt, hc37_2]
      refine ⟨rfl, K_, F_a_rank, F_a_heap, F_a_size, ?_⟩
      simp only [own_p3, l_hc37, l_hc37_2, if_true, if_false, Bool.false_eq_true]; exact A_q
    · intro hc37_2
      refine own_aloadN (pc' := 41) C d3_40 rfl rfl rfl ?_
      refine own_getfield (pc' := 44) C d3_41 (hw _ (List.mem_of_getElem? (i := 12) rfl)) F_a_heap rfl ?_
      refine own_iloadN (pc' := 45) C d3_44 rfl rfl ?_
      refine own_aloadN (pc' := 46) C d3_45 rfl rfl rfl ?_
      refine own_getfield (pc' := 49) C d3_46 (hw _ (List.mem_of_getElem? (i := 12) rfl)) F_a_heap rfl ?_
      refine own_iloadN (pc' := 50) C d3_49 rfl rfl ?_
      refine own_iconst (pc' := 51) (v := (1 : Int32)) C d3_50 own_ki_1 rfl ?_
      refine own_isub (pc' := 52) (v := (0 : Int32)) C d3_51 (by decide) rfl ?_
      refine own_iconst (pc' := 53) (v := (2 : Int32)) C d3_52 own_ki_2 rfl ?_
      refine own_idiv (pc' := 54) (v := (0 : Int32)) C d3_53 (by decide) (by decide) rfl ?_
      refine own_iaload (pc' := 55) (v := x0_) (i := 0) C d3_54 A_q (by decide) rfl rfl rfl ?_
      refine own_iastore (pc' := 56) (i := 1) (ys := [x0_, x0_, x2_, x1_, x4_]) C d3_55 A_q (by decide) rfl (Nat.le_of_ble_eq_true rfl) rfl g_q rfl ?_
      intro h3 W3 A3_
      replace E_a := E_a.wr W3
      replace F_a_rank := F_a_rank.other W3 (Or.inl ne_a_q)
      replace F_a_heap := F_a_heap.other W3 (Or.inl ne_a_q)
      replace F_a_size := F_a_size.other W3 (Or.inl ne_a_q)
      replace A_r := A_r.other W3 ne_r_q
      replace A_q := A3_
      replace Z_ : n0 ≤ _ := Nat.le_trans Z_ (Nat.le_of_eq W3.size.symm)
      replace K_ := K_.wr W3 (Or.inl (List.mem_of_getElem? (i := 1) rfl))
      refine own_iloadN (pc' := 57) C d3_56 rfl rfl ?_
      refine own_iconst (pc' := 58) (v := (1 : Int32)) C d3_57 own_ki_1 rfl ?_
      refine own_isub (pc' := 59) (v := (0 : Int32)) C d3_58 (by decide) rfl ?_
      refine own_iconst (pc' := 60) (v := (2 : Int32)) C d3_59 own_ki_2 rfl ?_
      refine own_idiv (pc' := 61) (v := (0 : Int32)) C d3_60 (by decide) (by decide) rfl ?_
      refine own_istoreN (pc' := 62) (y := (0 : Int32)) (Ls' := #[.val (.ref a), .val (.int u), .val (.int (0 : Int32))]) C d3_61 rfl rfl rfl ?_
      refine own_goto (pc' := 12) C d3_62 (by decide) (by decide) ?_
      refine own_iloadN (pc' := 13) C d3_12 rfl rfl ?_
      refine own_if_le (pt := 65) (pf := 16) C d3_13 (by decide) (by decide) rfl (fun _ => ?_) (fun q => absurd q (by decide))
      refine own_aloadN (pc' := 66) C d3_65 rfl rfl rfl ?_
      refine own_getfield (pc' := 69) C d3_66 (hw _ (List.mem_of_getElem? (i := 12) rfl)) F_a_heap rfl ?_
      refine own_iloadN (pc' := 70) C d3_69 rfl rfl ?_
      refine own_iloadN (pc' := 71) C d3_70 rfl rfl ?_
      refine own_iastore (pc' := 72) (i := 0) (ys := [u, x0_, x2_, x1_, x4_]) C d3_71 A_q (by decide) rfl (Nat.le_of_ble_eq_true rfl) rfl g_q rfl ?_
      intro h4 W4 A4_
      replace E_a := E_a.wr W4
      replace F_a_rank := F_a_rank.other W4 (Or.inl ne_a_q)
      replace F_a_heap := F_a_heap.other W4 (Or.inl ne_a_q)
      replace F_a_size := F_a_size.other W4 (Or.inl ne_a_q)
      replace A_r := A_r.other W4 ne_r_q
      replace A_q := A4_
      replace Z_ : n0 ≤ _ := Nat.le_trans Z_ (Nat.le_of_eq W4.size.symm)
      replace K_ := K_.wr W4 (Or.inl (List.mem_of_getElem? (i := 1) rfl))
      refine own_vret C d3_72 (by decide) (by decide) ?_
      have l_hc37 : own_lt [r0_, r1_, r2_, r3_, r4_] u x1_ = true := by simp [own_lt, hc37]
      have l_hc37_2 : own_lt [r0_, r1_, r2_, r3_, r4_] u x0_ = true := by simp [own_lt, hc37_2]
      refine ⟨rfl, K_, F_a_rank, F_a_heap, F_a_size, ?_⟩
      simp only [own_p3, l_hc37, l_hc37_2, if_true, if_false, Bool.false_eq_true]; exact A_q

set_option maxRecDepth 65536 in
set_option maxHeartbeats 40000000 in
theorem own_add4 (l : Launch) (Z : State) (a0 : Array Value) (hw : ∀ d ∈ tables_1, d.before a0 Z = true) (a : Addr) (u : Int32) (r q : Addr) (r0_ r1_ r2_ r3_ r4_ x0_ x1_ x2_ x3_ x4_ : Int32) (h0 : Heap) (n0 : Nat) (Z_ : n0 ≤ h0.size) (E_a : Exa Z h0 a "com/example/precedence/precedence/IntHeap") (F_a_rank : Fld Z h0 a "com/example/precedence/precedence/IntHeap" "rank" "[I" (.ref r)) (F_a_heap : Fld Z h0 a "com/example/precedence/precedence/IntHeap" "heap" "[I" (.ref q)) (F_a_size : Fld Z h0 a "com/example/precedence/precedence/IntHeap" "size" "I" (.int (4 : Int32))) (g_a : n0 ≤ a) (A_r : AI Z h0 r .int [r0_, r1_, r2_, r3_, r4_]) (A_q : AI Z h0 q .int [x0_, x1_, x2_, x3_, x4_]) (g_q : n0 ≤ q) (ne_a_r : a ≠ r) (ne_a_q : a ≠ q) (ne_r_q : r ≠ q) (hi_x0_ : own_in x0_) (hi_x1_ : own_in x1_) (hi_x2_ : own_in x2_) (hi_x3_ : own_in x3_) (hi_u : own_in u) :
    Met l (⟨"com/example/precedence/precedence/IntHeap", "add", "(I)V"⟩ : MethodName) prog_28_method_3_code 3 none [] ({ frames := 0, cells := 0, slots := 0, locals := 0 } : Room) Z n0 #[(.ref a), (.int u)] h0 (fun v h => v = none ∧ Keep h0 h [a, q] ∧ Fld Z h a "com/example/precedence/precedence/IntHeap" "rank" "[I" (.ref r) ∧ Fld Z h a "com/example/precedence/precedence/IntHeap" "heap" "[I" (.ref q) ∧ Fld Z h a "com/example/precedence/precedence/IntHeap" "size" "I" (.int (5 : Int32)) ∧ AI Z h q .int [(own_p4 (own_lt [r0_, r1_, r2_, r3_, r4_]) x0_ x1_ x2_ x3_ u).1, (own_p4 (own_lt [r0_, r1_, r2_, r3_, r4_]) x0_ x1_ x2_ x3_ u).2.1, (own_p4 (own_lt [r0_, r1_, r2_, r3_, r4_]) x0_ x1_ x2_ x3_ u).2.2.1, (own_p4 (own_lt [r0_, r1_, r2_, r3_, r4_]) x0_ x1_ x2_ x3_ u).2.2.2.1, (own_p4 (own_lt [r0_, r1_, r2_, r3_, r4_]) x0_ x1_ x2_ x3_ u).2.2.2.2]) := by
  refine own_met pn3 (fun m => ef3 m a u) ?_
  intro p e s m below meth c C
  have K_ : Keep h0 h0 [a, q] := Keep.refl _ _
  refine own_aloadN (pc' := 1) C d3_0 rfl rfl rfl ?_
  refine own_dup (pc' := 2) C d3_1 rfl rfl ?_
  refine own_getfield (pc' := 5) C d3_2 (hw _ (List.mem_of_getElem? (i := 19) rfl)) F_a_size rfl ?_
  refine own_dupX1 (pc' := 6) C d3_5 rfl rfl rfl ?_
  refine own_iconst (pc' := 7) (v := (1 : Int32)) C d3_6 own_ki_1 rfl ?_
  refine own_iadd (pc' := 8) (v := (5 : Int32)) C d3_7 (by decide) rfl ?_
  refine own_putfield (pc' := 11) C d3_8 (hw _ (List.mem_of_getElem? (i := 19) rfl)) F_a_size E_a (Or.inl (hw _ (List.mem_of_getElem? (i := 20) rfl))) (hw _ (List.mem_of_getElem? (i := 2) rfl)) (ty := .int) (by decide) rfl rfl g_a rfl ?_
  intro h1 W1 F1_
  replace E_a := E_a.wr W1
  replace F_a_rank := F_a_rank.other W1 (Or.inr (slot_ne (Or.inr (hw _ (List.mem_of_getElem? (i := 11) rfl))) (Or.inl (hw _ (List.mem_of_getElem? (i := 20) rfl))) (by decide) (t := (.array .int)) (t' := .int) (by decide) (by decide)))
  replace F_a_heap := F_a_heap.other W1 (Or.inr (slot_ne (Or.inr (hw _ (List.mem_of_getElem? (i := 13) rfl))) (Or.inl (hw _ (List.mem_of_getElem? (i := 20) rfl))) (by decide) (t := (.array .int)) (t' := .int) (by decide) (by decide)))
  replace A_r := A_r.other W1 (Ne.symm ne_a_r)
  replace A_q := A_q.other W1 (Ne.symm ne_a_q)
  replace F_a_size := F1_
  replace Z_ : n0 ≤ _ := Nat.le_trans Z_ (Nat.le_of_eq W1.size.symm)
  replace K_ := K_.wr W1 (Or.inl (List.mem_of_getElem? (i := 0) rfl))
  refine own_istoreN (pc' := 12) (y := (4 : Int32)) (Ls' := #[.val (.ref a), .val (.int u), .val (.int (4 : Int32))]) C d3_11 rfl rfl rfl ?_
  refine own_iloadN (pc' := 13) C d3_12 rfl rfl ?_
  refine own_if_le (pt := 65) (pf := 16) C d3_13 (by decide) (by decide) rfl (fun q => absurd (by decide) q) (fun _ => ?_)
  refine own_aloadN (pc' := 17) C d3_16 rfl rfl rfl ?_
  refine own_getfield (pc' := 20) C d3_17 (hw _ (List.mem_of_getElem? (i := 10) rfl)) F_a_rank rfl ?_
  refine own_aloadN (pc' := 21) C d3_20 rfl rfl rfl ?_
  refine own_getfield (pc' := 24) C d3_21 (hw _ (List.mem_of_getElem? (i := 12) rfl)) F_a_heap rfl ?_
  refine own_iloadN (pc' := 25) C d3_24 rfl rfl ?_
  refine own_iconst (pc' := 26) (v := (1 : Int32)) C d3_25 own_ki_1 rfl ?_
  refine own_isub (pc' := 27) (v := (3 : Int32)) C d3_26 (by decide) rfl ?_
  refine own_iconst (pc' := 28) (v := (2 : Int32)) C d3_27 own_ki_2 rfl ?_
  refine own_idiv (pc' := 29) (v := (1 : Int32)) C d3_28 (by decide) (by decide) rfl ?_
  refine own_iaload (pc' := 30) (v := x1_) (i := 1) C d3_29 A_q (by decide) rfl rfl rfl ?_
  refine own_iaload (pc' := 31) (v := (own_rk [r0_, r1_, r2_, r3_, r4_] x1_)) (i := x1_.toNatClampNeg) C d3_30 A_r hi_x1_.1 rfl (own_get hi_x1_) rfl ?_
  refine own_aloadN (pc' := 32) C d3_31 rfl rfl rfl ?_
  refine own_getfield (pc' := 35) C d3_32 (hw _ (List.mem_of_getElem? (i := 10) rfl)) F_a_rank rfl ?_
  refine own_iloadN (pc' := 36) C d3_35 rfl rfl ?_
  refine own_iaload (pc' := 37) (v := (own_rk [r0_, r1_, r2_, r3_, r4_] u)) (i := u.toNatClampNeg) C d3_36 A_r hi_u.1 rfl (own_get hi_u) rfl ?_
  refine own_icmp_le (pt := 65) (pf := 40) C d3_37 (by decide) (by decide) rfl ?_ ?_
  · intro hc37
    refine own_aloadN (pc' := 66) C d3_65 rfl rfl rfl ?_
    refine own_getfield (pc' := 69) C d3_66 (hw _ (List.mem_of_getElem? (i := 12) rfl)) F_a_heap rfl ?_
    refine own_iloadN (pc' := 70) C d3_69 rfl rfl ?_
    refine own_iloadN (pc' := 71) C d3_70 rfl rfl ?_
    refine own_iastore (pc' := 72) (i := 4) (ys := [x0_, x1_, x2_, x3_, u]) C d3_71 A_q (by decide) rfl (Nat.le_of_ble_eq_true rfl) rfl g_q rfl ?_
    intro h2 W2 A2_
    replace E_a := E_a.wr W2
    replace F_a_rank := F_a_rank.other W2 (Or.inl ne_a_q)
    replace F_a_heap := F_a_heap.other W2 (Or.inl ne_a_q)
    replace F_a_size := F_a_size.other W2 (Or.inl ne_a_q)
    replace A_r := A_r.other W2 ne_r_q
    replace A_q := A2_
    replace Z_ : n0 ≤ _ := Nat.le_trans Z_ (Nat.le_of_eq W2.size.symm)
    replace K_ := K_.wr W2 (Or.inl (List.mem_of_getElem? (i := 1) rfl))
    refine own_vret C d3_72 (by decide) (by decide) ?_
    have l_hc37 : own_lt [r0_, r1_, r2_, r3_, r4_] u x1_ = false := by simp [own_lt, hc37]
    refine ⟨rfl, K_, F_a_rank, F_a_heap, F_a_size, ?_⟩
    simp only [own_p4, l_hc37, if_true, if_false, Bool.false_eq_true]; exact A_q
  · intro hc37
    refine own_aloadN (pc' := 41) C d3_40 rfl rfl rfl ?_
    refine own_getfield (pc' := 44) C d3_41 (hw _ (List.mem_of_getElem? (i := 12) rfl)) F_a_heap rfl ?_
    refine own_iloadN (pc' := 45) C d3_44 rfl rfl ?_
    refine own_aloadN (pc' := 46) C d3_45 rfl rfl rfl ?_
    refine own_getfield (pc' := 49) C d3_46 (hw _ (List.mem_of_getElem? (i := 12) rfl)) F_a_heap rfl ?_
    refine own_iloadN (pc' := 50) C d3_49 rfl rfl ?_
    refine own_iconst (pc' := 51) (v := (1 : Int32)) C d3_50 own_ki_1 rfl ?_
    refine own_isub (pc' := 52) (v := (3 : Int32)) C d3_51 (by decide) rfl ?_
    refine own_iconst (pc' := 53) (v := (2 : Int32)) C d3_52 own_ki_2 rfl ?_
    refine own_idiv (pc' := 54) (v := (1 : Int32)) C d3_53 (by decide) (by decide) rfl ?_
    refine own_iaload (pc' := 55) (v := x1_) (i := 1) C d3_54 A_q (by decide) rfl rfl rfl ?_
    refine own_iastore (pc' := 56) (i := 4) (ys := [x0_, x1_, x2_, x3_, x1_]) C d3_55 A_q (by decide) rfl (Nat.le_of_ble_eq_true rfl) rfl g_q rfl ?_
    intro h2 W2 A2_
    replace E_a := E_a.wr W2
    replace F_a_rank := F_a_rank.other W2 (Or.inl ne_a_q)
    replace F_a_heap := F_a_heap.other W2 (Or.inl ne_a_q)
    replace F_a_size := F_a_size.other W2 (Or.inl ne_a_q)
    replace A_r := A_r.other W2 ne_r_q
    replace A_q := A2_
    replace Z_ : n0 ≤ _ := Nat.le_trans Z_ (Nat.le_of_eq W2.size.symm)
    replace K_ := K_.wr W2 (Or.inl (List.mem_of_getElem? (i := 1) rfl))
    refine own_iloadN (pc' := 57) C d3_56 rfl rfl ?_
    refine own_iconst (pc' := 58) (v := (1 : Int32)) C d3_57 own_ki_1 rfl ?_
    refine own_isub (pc' := 59) (v := (3 : Int32)) C d3_58 (by decide) rfl ?_
    refine own_iconst (pc' := 60) (v := (2 : Int32)) C d3_59 own_ki_2 rfl ?_
    refine own_idiv (pc' := 61) (v := (1 : Int32)) C d3_60 (by decide) (by decide) rfl ?_
    refine own_istoreN (pc' := 62) (y := (1 : Int32)) (Ls' := #[.val (.ref a), .val (.int u), .val (.int (1 : Int32))]) C d3_61 rfl rfl rfl ?_
    refine own_goto (pc' := 12) C d3_62 (by decide) (by decide) ?_
    refine own_iloadN (pc' := 13) C d3_12 rfl rfl ?_
    refine own_if_le (pt := 65) (pf := 16) C d3_13 (by decide) (by decide) rfl (fun q => absurd (by decide) q) (fun _ => ?_)
    refine own_aloadN (pc' := 17) C d3_16 rfl rfl rfl ?_
    refine own_getfield (pc' := 20) C d3_17 (hw _ (List.mem_of_getElem? (i := 10) rfl)) F_a_rank rfl ?_
    refine own_aloadN (pc' := 21) C d3_20 rfl rfl rfl ?_
    refine own_getfield (pc' := 24) C d3_21 (hw _ (List.mem_of_getElem? (i := 12) rfl)) F_a_heap rfl ?_
    refine own_iloadN (pc' := 25) C d3_24 rfl rfl ?_
    refine own_iconst (pc' := 26) (v := (1 : Int32)) C d3_25 own_ki_1 rfl ?_
    refine own_isub (pc' := 27) (v := (0 : Int32)) C d3_26 (by decide) rfl ?_
    refine own_iconst (pc' := 28) (v := (2 : Int32)) C d3_27 own_ki_2 rfl ?_
    refine own_idiv (pc' := 29) (v := (0 : Int32)) C d3_28 (by decide) (by decide) rfl ?_
    refine own_iaload (pc' := 30) (v := x0_) (i := 0) C d3_29 A_q (by decide) rfl rfl rfl ?_
    refine own_iaload (pc' := 31) (v := (own_rk [r0_, r1_, r2_, r3_, r4_] x0_)) (i := x0_.toNatClampNeg) C d3_30 A_r hi_x0_.1 rfl (own_get hi_x0_) rfl ?_
    refine own_aloadN (pc' := 32) C d3_31 rfl rfl rfl ?_
    refine own_getfield (pc' := 35) C d3_32 (hw _ (List.mem_of_getElem? (i := 10) rfl)) F_a_rank rfl ?_
    refine own_iloadN (pc' := 36) C d3_35 rfl rfl ?_
    refine own_iaload (pc' := 37) (v := (own_rk [r0_, r1_, r2_, r3_, r4_] u)) (i := u.toNatClampNeg) C d3_36 A_r hi_u.1 rfl (own_get hi_u) rfl ?_
    refine own_icmp_le (pt := 65) (pf := 40) C d3_37 (by decide) (by decide) rfl ?_ ?_
    · intro hc37_2
      refine own_aloadN (pc' := 66) C d3_65 rfl rfl rfl ?_
      refine own_getfield (pc' := 69) C d3_66 (hw _ (List.mem_of_getElem? (i := 12) rfl)) F_a_heap rfl ?_
      refine own_iloadN (pc' := 70) C d3_69 rfl rfl ?_
      refine own_iloadN (pc' := 71) C d3_70 rfl rfl ?_
      refine own_iastore (pc' := 72) (i := 1) (ys := [x0_, u, x2_, x3_, x1_]) C d3_71 A_q (by decide) rfl (Nat.le_of_ble_eq_true rfl) rfl g_q rfl ?_
      intro h3 W3 A3_
      replace E_a := E_a.wr W3
      replace F_a_rank := F_a_rank.other W3 (Or.inl ne_a_q)
      replace F_a_heap := F_a_heap.other W3 (Or.inl ne_a_q)
      replace F_a_size := F_a_size.other W3 (Or.inl ne_a_q)
      replace A_r := A_r.other W3 ne_r_q
      replace A_q := A3_
      replace Z_ : n0 ≤ _ := Nat.le_trans Z_ (Nat.le_of_eq W3.size.symm)
      replace K_ := K_.wr W3 (Or.inl (List.mem_of_getElem? (i := 1) rfl))
      refine own_vret C d3_72 (by decide) (by decide) ?_
      have l_hc37 : own_lt [r0_, r1_, r2_, r3_, r4_] u x1_ = true := by simp [own_lt, hc37]
      have l_hc37_2 : own_lt [r0_, r1_, r2_, r3_, r4_] u x0_ = false := by simp [own_lt, hc37_2]
      refine ⟨rfl, K_, F_a_rank, F_a_heap, F_a_size, ?_⟩
      simp only [own_p4, l_hc37, l_hc37_2, if_true, if_false, Bool.false_eq_true]; exact A_q
    · intro hc37_2
      refine own_aloadN (pc' := 41) C d3_40 rfl rfl rfl ?_
      refine own_getfield (pc' := 44) C d3_41 (hw _ (List.mem_of_getElem? (i := 12) rfl)) F_a_heap rfl ?_
      refine own_iloadN (pc' := 45) C d3_44 rfl rfl ?_
      refine own_aloadN (pc' := 46) C d3_45 rfl rfl rfl ?_
      refine own_getfield (pc' := 49) C d3_46 (hw _ (List.mem_of_getElem? (i := 12) rfl)) F_a_heap rfl ?_
      refine own_iloadN (pc' := 50) C d3_49 rfl rfl ?_
      refine own_iconst (pc' := 51) (v := (1 : Int32)) C d3_50 own_ki_1 rfl ?_
      refine own_isub (pc' := 52) (v := (0 : Int32)) C d3_51 (by decide) rfl ?_
      refine own_iconst (pc' := 53) (v := (2 : Int32)) C d3_52 own_ki_2 rfl ?_
      refine own_idiv (pc' := 54) (v := (0 : Int32)) C d3_53 (by decide) (by decide) rfl ?_
      refine own_iaload (pc' := 55) (v := x0_) (i := 0) C d3_54 A_q (by decide) rfl rfl rfl ?_
      refine own_iastore (pc' := 56) (i := 1) (ys := [x0_, x0_, x2_, x3_, x1_]) C d3_55 A_q (by decide) rfl (Nat.le_of_ble_eq_true rfl) rfl g_q rfl ?_
      intro h3 W3 A3_
      replace E_a := E_a.wr W3
      replace F_a_rank := F_a_rank.other W3 (Or.inl ne_a_q)
      replace F_a_heap := F_a_heap.other W3 (Or.inl ne_a_q)
      replace F_a_size := F_a_size.other W3 (Or.inl ne_a_q)
      replace A_r := A_r.other W3 ne_r_q
      replace A_q := A3_
      replace Z_ : n0 ≤ _ := Nat.le_trans Z_ (Nat.le_of_eq W3.size.symm)
      replace K_ := K_.wr W3 (Or.inl (List.mem_of_getElem? (i := 1) rfl))
      refine own_iloadN (pc' := 57) C d3_56 rfl rfl ?_
      refine own_iconst (pc' := 58) (v := (1 : Int32)) C d3_57 own_ki_1 rfl ?_
      refine own_isub (pc' := 59) (v := (0 : Int32)) C d3_58 (by decide) rfl ?_
      refine own_iconst (pc' := 60) (v := (2 : Int32)) C d3_59 own_ki_2 rfl ?_
      refine own_idiv (pc' := 61) (v := (0 : Int32)) C d3_60 (by decide) (by decide) rfl ?_
      refine own_istoreN (pc' := 62) (y := (0 : Int32)) (Ls' := #[.val (.ref a), .val (.int u), .val (.int (0 : Int32))]) C d3_61 rfl rfl rfl ?_
      refine own_goto (pc' := 12) C d3_62 (by decide) (by decide) ?_
      refine own_iloadN (pc' := 13) C d3_12 rfl rfl ?_
      refine own_if_le (pt := 65) (pf := 16) C d3_13 (by decide) (by decide) rfl (fun _ => ?_) (fun q => absurd q (by decide))
      refine own_aloadN (pc' := 66) C d3_65 rfl rfl rfl ?_
      refine own_getfield (pc' := 69) C d3_66 (hw _ (List.mem_of_getElem? (i := 12) rfl)) F_a_heap rfl ?_
      refine own_iloadN (pc' := 70) C d3_69 rfl rfl ?_
      refine own_iloadN (pc' := 71) C d3_70 rfl rfl ?_
      refine own_iastore (pc' := 72) (i := 0) (ys := [u, x0_, x2_, x3_, x1_]) C d3_71 A_q (by decide) rfl (Nat.le_of_ble_eq_true rfl) rfl g_q rfl ?_
      intro h4 W4 A4_
      replace E_a := E_a.wr W4
      replace F_a_rank := F_a_rank.other W4 (Or.inl ne_a_q)
      replace F_a_heap := F_a_heap.other W4 (Or.inl ne_a_q)
      replace F_a_size := F_a_size.other W4 (Or.inl ne_a_q)
      replace A_r := A_r.other W4 ne_r_q
      replace A_q := A4_
      replace Z_ : n0 ≤ _ := Nat.le_trans Z_ (Nat.le_of_eq W4.size.symm)
      replace K_ := K_.wr W4 (Or.inl (List.mem_of_getElem? (i := 1) rfl))
      refine own_vret C d3_72 (by decide) (by decide) ?_
      have l_hc37 : own_lt [r0_, r1_, r2_, r3_, r4_] u x1_ = true := by simp [own_lt, hc37]
      have l_hc37_2 : own_lt [r0_, r1_, r2_, r3_, r4_] u x0_ = true := by simp [own_lt, hc37_2]
      refine ⟨rfl, K_, F_a_rank, F_a_heap, F_a_size, ?_⟩
      simp only [own_p4, l_hc37, l_hc37_2, if_true, if_false, Bool.false_eq_true]; exact A_q

theorem d4_0 : decode prog_28_method_4_code 0 = .ok (.aload_n 0, 1) := by decide +kernel
theorem d4_1 : decode prog_28_method_4_code 1 = .ok (.getfield 13, 3) := by decide +kernel
theorem d4_4 : decode prog_28_method_4_code 4 = .ok (.iconst 0, 1) := by decide +kernel
theorem d4_5 : decode prog_28_method_4_code 5 = .ok (.iaload, 1) := by decide +kernel
theorem d4_6 : decode prog_28_method_4_code 6 = .ok (.istore_n 1, 1) := by decide +kernel
theorem d4_7 : decode prog_28_method_4_code 7 = .ok (.aload_n 0, 1) := by decide +kernel
theorem d4_8 : decode prog_28_method_4_code 8 = .ok (.getfield 13, 3) := by decide +kernel
theorem d4_11 : decode prog_28_method_4_code 11 = .ok (.aload_n 0, 1) := by decide +kernel
theorem d4_12 : decode prog_28_method_4_code 12 = .ok (.dup, 1) := by decide +kernel
theorem d4_13 : decode prog_28_method_4_code 13 = .ok (.getfield 16, 3) := by decide +kernel
theorem d4_16 : decode prog_28_method_4_code 16 = .ok (.iconst 1, 1) := by decide +kernel
theorem d4_17 : decode prog_28_method_4_code 17 = .ok (.isub, 1) := by decide +kernel
theorem d4_18 : decode prog_28_method_4_code 18 = .ok (.dup_x1, 1) := by decide +kernel
theorem d4_19 : decode prog_28_method_4_code 19 = .ok (.putfield 16, 3) := by decide +kernel
theorem d4_22 : decode prog_28_method_4_code 22 = .ok (.iaload, 1) := by decide +kernel
theorem d4_23 : decode prog_28_method_4_code 23 = .ok (.istore_n 2, 1) := by decide +kernel
theorem d4_24 : decode prog_28_method_4_code 24 = .ok (.iconst 0, 1) := by decide +kernel
theorem d4_25 : decode prog_28_method_4_code 25 = .ok (.istore_n 3, 1) := by decide +kernel
theorem d4_26 : decode prog_28_method_4_code 26 = .ok (.iconst 1, 1) := by decide +kernel
theorem d4_27 : decode prog_28_method_4_code 27 = .ok (.istore 4, 2) := by decide +kernel
theorem d4_29 : decode prog_28_method_4_code 29 = .ok (.iload 4, 2) := by decide +kernel
theorem d4_31 : decode prog_28_method_4_code 31 = .ok (.aload_n 0, 1) := by decide +kernel
theorem d4_32 : decode prog_28_method_4_code 32 = .ok (.getfield 16, 3) := by decide +kernel
theorem d4_35 : decode prog_28_method_4_code 35 = .ok (.if_icmp .ge 96, 3) := by decide +kernel
theorem d4_131 : decode prog_28_method_4_code 131 = .ok (.aload_n 0, 1) := by decide +kernel
theorem d4_132 : decode prog_28_method_4_code 132 = .ok (.getfield 13, 3) := by decide +kernel
theorem d4_135 : decode prog_28_method_4_code 135 = .ok (.iload_n 3, 1) := by decide +kernel
theorem d4_136 : decode prog_28_method_4_code 136 = .ok (.iload_n 2, 1) := by decide +kernel
theorem d4_137 : decode prog_28_method_4_code 137 = .ok (.iastore, 1) := by decide +kernel
theorem d4_138 : decode prog_28_method_4_code 138 = .ok (.iload_n 1, 1) := by decide +kernel
theorem d4_139 : decode prog_28_method_4_code 139 = .ok (.ireturn, 1) := by decide +kernel
theorem pn4 : plainName "com/example/precedence/precedence/IntHeap" = true := by first | (simp [plainName, overriddenIn]; done) | decide +kernel
theorem ef4 (m : MethodId) (x0 : Addr) : entryFrame m #[(.ref x0)] 5 = mkF m 0 #[.val (.ref x0), .unset, .unset, .unset, .unset] [] := by first | (simp [entryFrame, mkF, argsToLocals, Value.category]; done) | rfl
theorem own_ki_0 : Int32.ofInt (0) = (0 : Int32) := by decide
set_option maxRecDepth 65536 in
set_option maxHeartbeats 40000000 in
theorem own_poll0 (l : Launch) (Z : State) (a0 : Array Value) (hw : ∀ d ∈ tables_1, d.before a0 Z = true) (a : Addr) (r q : Addr) (r0_ r1_ r2_ r3_ r4_ x0_ x1_ x2_ x3_ x4_ : Int32) (h0 : Heap) (n0 : Nat) (Z_ : n0 ≤ h0.size) (E_a : Exa Z h0 a "com/example/precedence/precedence/IntHeap") (F_a_rank : Fld Z h0 a "com/example/precedence/precedence/IntHeap" "rank" "[I" (.ref r)) (F_a_heap : Fld Z h0 a "com/example/precedence/precedence/IntHeap" "heap" "[I" (.ref q)) (F_a_size : Fld Z h0 a "com/example/precedence/precedence/IntHeap" "size" "I" (.int (1 : Int32))) (g_a : n0 ≤ a) (A_r : AI Z h0 r .int [r0_, r1_, r2_, r3_, r4_]) (A_q : AI Z h0 q .int [x0_, x1_, x2_, x3_, x4_]) (g_q : n0 ≤ q) (ne_a_r : a ≠ r) (ne_a_q : a ≠ q) (ne_r_q : r ≠ q) (hi_x0_ : own_in x0_) :
    Met l (⟨"com/example/precedence/precedence/IntHeap", "poll", "()I"⟩ : MethodName) prog_28_method_4_code 5 (some .int) [] ({ frames := 0, cells := 0, slots := 0, locals := 0 } : Room) Z n0 #[(.ref a)] h0 (fun v h => v = some (.int x0_) ∧ Keep h0 h [a, q] ∧ Fld Z h a "com/example/precedence/precedence/IntHeap" "rank" "[I" (.ref r) ∧ Fld Z h a "com/example/precedence/precedence/IntHeap" "heap" "[I" (.ref q) ∧ Fld Z h a "com/example/precedence/precedence/IntHeap" "size" "I" (.int (0 : Int32)) ∧ AI Z h q .int [x0_, x1_, x2_, x3_, x4_]) := by
  refine own_met pn4 (fun m => ef4 m a) ?_
  intro p e s m below meth c C
  have K_ : Keep h0 h0 [a, q] := Keep.refl _ _
  refine own_aloadN (pc' := 1) C d4_0 rfl rfl rfl ?_
  refine own_getfield (pc' := 4) C d4_1 (hw _ (List.mem_of_getElem? (i := 12) rfl)) F_a_heap rfl ?_
  refine own_iconst (pc' := 5) (v := (0 : Int32)) C d4_4 own_ki_0 rfl ?_
  refine own_iaload (pc' := 6) (v := x0_) (i := 0) C d4_5 A_q (by decide) rfl rfl rfl ?_
  refine own_istoreN (pc' := 7) (y := x0_) (Ls' := #[.val (.ref a), .val (.int x0_), .unset, .unset, .unset]) C d4_6 rfl rfl rfl ?_
  refine own_aloadN (pc' := 8) C d4_7 rfl rfl rfl ?_
  refine own_getfield (pc' := 11) C d4_8 (hw _ (List.mem_of_getElem? (i := 12) rfl)) F_a_heap rfl ?_
  refine own_aloadN (pc' := 12) C d4_11 rfl rfl rfl ?_
  refine own_dup (pc' := 13) C d4_12 rfl rfl ?_
  refine own_getfield (pc' := 16) C d4_13 (hw _ (List.mem_of_getElem? (i := 19) rfl)) F_a_size rfl ?_
  refine own_iconst (pc' := 17) (v := (1 : Int32)) C d4_16 own_ki_1 rfl ?_
  refine own_isub (pc' := 18) (v := (0 : Int32)) C d4_17 (by decide) rfl ?_
  refine own_dupX1 (pc' := 19) C d4_18 rfl rfl rfl ?_
  refine own_putfield (pc' := 22) C d4_19 (hw _ (List.mem_of_getElem? (i := 19) rfl)) F_a_size E_a (Or.inl (hw _ (List.mem_of_getElem? (i := 20) rfl))) (hw _ (List.mem_of_getElem? (i := 2) rfl)) (ty := .int) (by decide) rfl rfl g_a rfl ?_
  intro h1 W1 F1_
  replace E_a := E_a.wr W1
  replace F_a_rank := F_a_rank.other W1 (Or.inr (slot_ne (Or.inr (hw _ (List.mem_of_getElem? (i := 11) rfl))) (Or.inl (hw _ (List.mem_of_getElem? (i := 20) rfl))) (by decide) (t := (.array .int)) (t' := .int) (by decide) (by decide)))
  replace F_a_heap := F_a_heap.other W1 (Or.inr (slot_ne (Or.inr (hw _ (List.mem_of_getElem? (i := 13) rfl))) (Or.inl (hw _ (List.mem_of_getElem? (i := 20) rfl))) (by decide) (t := (.array .int)) (t' := .int) (by decide) (by decide)))
  replace A_r := A_r.other W1 (Ne.symm ne_a_r)
  replace A_q := A_q.other W1 (Ne.symm ne_a_q)
  replace F_a_size := F1_
  replace Z_ : n0 ≤ _ := Nat.le_trans Z_ (Nat.le_of_eq W1.size.symm)
  replace K_ := K_.wr W1 (Or.inl (List.mem_of_getElem? (i := 0) rfl))
  refine own_iaload (pc' := 23) (v := x0_) (i := 0) C d4_22 A_q (by decide) rfl rfl rfl ?_
  refine own_istoreN (pc' := 24) (y := x0_) (Ls' := #[.val (.ref a), .val (.int x0_), .val (.int x0_), .unset, .unset]) C d4_23 rfl rfl rfl ?_
  refine own_iconst (pc' := 25) (v := (0 : Int32)) C d4_24 own_ki_0 rfl ?_
  refine own_istoreN (pc' := 26) (y := (0 : Int32)) (Ls' := #[.val (.ref a), .val (.int x0_), .val (.int x0_), .val (.int (0 : Int32)), .unset]) C d4_25 rfl rfl rfl ?_
  refine own_iconst (pc' := 27) (v := (1 : Int32)) C d4_26 own_ki_1 rfl ?_
  refine own_istore (pc' := 29) (y := (1 : Int32)) (Ls' := #[.val (.ref a), .val (.int x0_), .val (.int x0_), .val (.int (0 : Int32)), .val (.int (1 : Int32))]) C d4_27 rfl rfl rfl ?_
  refine own_iload (pc' := 31) C d4_29 rfl rfl ?_
  refine own_aloadN (pc' := 32) C d4_31 rfl rfl rfl ?_
  refine own_getfield (pc' := 35) C d4_32 (hw _ (List.mem_of_getElem? (i := 19) rfl)) F_a_size rfl ?_
  refine own_icmp_ge (pt := 131) (pf := 38) C d4_35 (by decide) (by decide) rfl (fun _ => ?_) (fun q => absurd q (by decide))
  refine own_aloadN (pc' := 132) C d4_131 rfl rfl rfl ?_
  refine own_getfield (pc' := 135) C d4_132 (hw _ (List.mem_of_getElem? (i := 12) rfl)) F_a_heap rfl ?_
  refine own_iloadN (pc' := 136) C d4_135 rfl rfl ?_
  refine own_iloadN (pc' := 137) C d4_136 rfl rfl ?_
  refine own_iastore (pc' := 138) (i := 0) (ys := [x0_, x1_, x2_, x3_, x4_]) C d4_137 A_q (by decide) rfl (Nat.le_of_ble_eq_true rfl) rfl g_q rfl ?_
  intro h2 W2 A2_
  replace E_a := E_a.wr W2
  replace F_a_rank := F_a_rank.other W2 (Or.inl ne_a_q)
  replace F_a_heap := F_a_heap.other W2 (Or.inl ne_a_q)
  replace F_a_size := F_a_size.other W2 (Or.inl ne_a_q)
  replace A_r := A_r.other W2 ne_r_q
  replace A_q := A2_
  replace Z_ : n0 ≤ _ := Nat.le_trans Z_ (Nat.le_of_eq W2.size.symm)
  replace K_ := K_.wr W2 (Or.inl (List.mem_of_getElem? (i := 1) rfl))
  refine own_iloadN (pc' := 139) C d4_138 rfl rfl ?_
  refine own_iret C d4_139 (by decide) (by decide) ?_
  exact ⟨rfl, K_, F_a_rank, F_a_heap, F_a_size, A_q⟩

set_option maxRecDepth 65536 in
set_option maxHeartbeats 40000000 in
theorem own_poll1 (l : Launch) (Z : State) (a0 : Array Value) (hw : ∀ d ∈ tables_1, d.before a0 Z = true) (a : Addr) (r q : Addr) (r0_ r1_ r2_ r3_ r4_ x0_ x1_ x2_ x3_ x4_ : Int32) (h0 : Heap) (n0 : Nat) (Z_ : n0 ≤ h0.size) (E_a : Exa Z h0 a "com/example/precedence/precedence/IntHeap") (F_a_rank : Fld Z h0 a "com/example/precedence/precedence/IntHeap" "rank" "[I" (.ref r)) (F_a_heap : Fld Z h0 a "com/example/precedence/precedence/IntHeap" "heap" "[I" (.ref q)) (F_a_size : Fld Z h0 a "com/example/precedence/precedence/IntHeap" "size" "I" (.int (2 : Int32))) (g_a : n0 ≤ a) (A_r : AI Z h0 r .int [r0_, r1_, r2_, r3_, r4_]) (A_q : AI Z h0 q .int [x0_, x1_, x2_, x3_, x4_]) (g_q : n0 ≤ q) (ne_a_r : a ≠ r) (ne_a_q : a ≠ q) (ne_r_q : r ≠ q) (hi_x0_ : own_in x0_) (hi_x1_ : own_in x1_) :
    Met l (⟨"com/example/precedence/precedence/IntHeap", "poll", "()I"⟩ : MethodName) prog_28_method_4_code 5 (some .int) [] ({ frames := 0, cells := 0, slots := 0, locals := 0 } : Room) Z n0 #[(.ref a)] h0 (fun v h => v = some (.int x0_) ∧ Keep h0 h [a, q] ∧ Fld Z h a "com/example/precedence/precedence/IntHeap" "rank" "[I" (.ref r) ∧ Fld Z h a "com/example/precedence/precedence/IntHeap" "heap" "[I" (.ref q) ∧ Fld Z h a "com/example/precedence/precedence/IntHeap" "size" "I" (.int (1 : Int32)) ∧ AI Z h q .int [x1_, x1_, x2_, x3_, x4_]) := by
  refine own_met pn4 (fun m => ef4 m a) ?_
  intro p e s m below meth c C
  have K_ : Keep h0 h0 [a, q] := Keep.refl _ _
  refine own_aloadN (pc' := 1) C d4_0 rfl rfl rfl ?_
  refine own_getfield (pc' := 4) C d4_1 (hw _ (List.mem_of_getElem? (i := 12) rfl)) F_a_heap rfl ?_
  refine own_iconst (pc' := 5) (v := (0 : Int32)) C d4_4 own_ki_0 rfl ?_
  refine own_iaload (pc' := 6) (v := x0_) (i := 0) C d4_5 A_q (by decide) rfl rfl rfl ?_
  refine own_istoreN (pc' := 7) (y := x0_) (Ls' := #[.val (.ref a), .val (.int x0_), .unset, .unset, .unset]) C d4_6 rfl rfl rfl ?_
  refine own_aloadN (pc' := 8) C d4_7 rfl rfl rfl ?_
  refine own_getfield (pc' := 11) C d4_8 (hw _ (List.mem_of_getElem? (i := 12) rfl)) F_a_heap rfl ?_
  refine own_aloadN (pc' := 12) C d4_11 rfl rfl rfl ?_
  refine own_dup (pc' := 13) C d4_12 rfl rfl ?_
  refine own_getfield (pc' := 16) C d4_13 (hw _ (List.mem_of_getElem? (i := 19) rfl)) F_a_size rfl ?_
  refine own_iconst (pc' := 17) (v := (1 : Int32)) C d4_16 own_ki_1 rfl ?_
  refine own_isub (pc' := 18) (v := (1 : Int32)) C d4_17 (by decide) rfl ?_
  refine own_dupX1 (pc' := 19) C d4_18 rfl rfl rfl ?_
  refine own_putfield (pc' := 22) C d4_19 (hw _ (List.mem_of_getElem? (i := 19) rfl)) F_a_size E_a (Or.inl (hw _ (List.mem_of_getElem? (i := 20) rfl))) (hw _ (List.mem_of_getElem? (i := 2) rfl)) (ty := .int) (by decide) rfl rfl g_a rfl ?_
  intro h1 W1 F1_
  replace E_a := E_a.wr W1
  replace F_a_rank := F_a_rank.other W1 (Or.inr (slot_ne (Or.inr (hw _ (List.mem_of_getElem? (i := 11) rfl))) (Or.inl (hw _ (List.mem_of_getElem? (i := 20) rfl))) (by decide) (t := (.array .int)) (t' := .int) (by decide) (by decide)))
  replace F_a_heap := F_a_heap.other W1 (Or.inr (slot_ne (Or.inr (hw _ (List.mem_of_getElem? (i := 13) rfl))) (Or.inl (hw _ (List.mem_of_getElem? (i := 20) rfl))) (by decide) (t := (.array .int)) (t' := .int) (by decide) (by decide)))
  replace A_r := A_r.other W1 (Ne.symm ne_a_r)
  replace A_q := A_q.other W1 (Ne.symm ne_a_q)
  replace F_a_size := F1_
  replace Z_ : n0 ≤ _ := Nat.le_trans Z_ (Nat.le_of_eq W1.size.symm)
  replace K_ := K_.wr W1 (Or.inl (List.mem_of_getElem? (i := 0) rfl))
  refine own_iaload (pc' := 23) (v := x1_) (i := 1) C d4_22 A_q (by decide) rfl rfl rfl ?_
  refine own_istoreN (pc' := 24) (y := x1_) (Ls' := #[.val (.ref a), .val (.int x0_), .val (.int x1_), .unset, .unset]) C d4_23 rfl rfl rfl ?_
  refine own_iconst (pc' := 25) (v := (0 : Int32)) C d4_24 own_ki_0 rfl ?_
  refine own_istoreN (pc' := 26) (y := (0 : Int32)) (Ls' := #[.val (.ref a), .val (.int x0_), .val (.int x1_), .val (.int (0 : Int32)), .unset]) C d4_25 rfl rfl rfl ?_
  refine own_iconst (pc' := 27) (v := (1 : Int32)) C d4_26 own_ki_1 rfl ?_
  refine own_istore (pc' := 29) (y := (1 : Int32)) (Ls' := #[.val (.ref a), .val (.int x0_), .val (.int x1_), .val (.int (0 : Int32)), .val (.int (1 : Int32))]) C d4_27 rfl rfl rfl ?_
  refine own_iload (pc' := 31) C d4_29 rfl rfl ?_
  refine own_aloadN (pc' := 32) C d4_31 rfl rfl rfl ?_
  refine own_getfield (pc' := 35) C d4_32 (hw _ (List.mem_of_getElem? (i := 19) rfl)) F_a_size rfl ?_
  refine own_icmp_ge (pt := 131) (pf := 38) C d4_35 (by decide) (by decide) rfl (fun _ => ?_) (fun q => absurd q (by decide))
  refine own_aloadN (pc' := 132) C d4_131 rfl rfl rfl ?_
  refine own_getfield (pc' := 135) C d4_132 (hw _ (List.mem_of_getElem? (i := 12) rfl)) F_a_heap rfl ?_
  refine own_iloadN (pc' := 136) C d4_135 rfl rfl ?_
  refine own_iloadN (pc' := 137) C d4_136 rfl rfl ?_
  refine own_iastore (pc' := 138) (i := 0) (ys := [x1_, x1_, x2_, x3_, x4_]) C d4_137 A_q (by decide) rfl (Nat.le_of_ble_eq_true rfl) rfl g_q rfl ?_
  intro h2 W2 A2_
  replace E_a := E_a.wr W2
  replace F_a_rank := F_a_rank.other W2 (Or.inl ne_a_q)
  replace F_a_heap := F_a_heap.other W2 (Or.inl ne_a_q)
  replace F_a_size := F_a_size.other W2 (Or.inl ne_a_q)
  replace A_r := A_r.other W2 ne_r_q
  replace A_q := A2_
  replace Z_ : n0 ≤ _ := Nat.le_trans Z_ (Nat.le_of_eq W2.size.symm)
  replace K_ := K_.wr W2 (Or.inl (List.mem_of_getElem? (i := 1) rfl))
  refine own_iloadN (pc' := 139) C d4_138 rfl rfl ?_
  refine own_iret C d4_139 (by decide) (by decide) ?_
  exact ⟨rfl, K_, F_a_rank, F_a_heap, F_a_size, A_q⟩

theorem d4_38 : decode prog_28_method_4_code 38 = .ok (.iload 4, 2) := by decide +kernel
theorem d4_40 : decode prog_28_method_4_code 40 = .ok (.iconst 1, 1) := by decide +kernel
theorem d4_41 : decode prog_28_method_4_code 41 = .ok (.iadd, 1) := by decide +kernel
theorem d4_42 : decode prog_28_method_4_code 42 = .ok (.aload_n 0, 1) := by decide +kernel
theorem d4_43 : decode prog_28_method_4_code 43 = .ok (.getfield 16, 3) := by decide +kernel
theorem d4_46 : decode prog_28_method_4_code 46 = .ok (.if_icmp .ge 35, 3) := by decide +kernel
theorem d4_81 : decode prog_28_method_4_code 81 = .ok (.aload_n 0, 1) := by decide +kernel
theorem d4_82 : decode prog_28_method_4_code 82 = .ok (.getfield 7, 3) := by decide +kernel
theorem d4_85 : decode prog_28_method_4_code 85 = .ok (.aload_n 0, 1) := by decide +kernel
theorem d4_86 : decode prog_28_method_4_code 86 = .ok (.getfield 13, 3) := by decide +kernel
theorem d4_89 : decode prog_28_method_4_code 89 = .ok (.iload 4, 2) := by decide +kernel
theorem d4_91 : decode prog_28_method_4_code 91 = .ok (.iaload, 1) := by decide +kernel
theorem d4_92 : decode prog_28_method_4_code 92 = .ok (.iaload, 1) := by decide +kernel
theorem d4_93 : decode prog_28_method_4_code 93 = .ok (.aload_n 0, 1) := by decide +kernel
theorem d4_94 : decode prog_28_method_4_code 94 = .ok (.getfield 7, 3) := by decide +kernel
theorem d4_97 : decode prog_28_method_4_code 97 = .ok (.iload_n 2, 1) := by decide +kernel
theorem d4_98 : decode prog_28_method_4_code 98 = .ok (.iaload, 1) := by decide +kernel
theorem d4_99 : decode prog_28_method_4_code 99 = .ok (.if_icmp .le 6, 3) := by decide +kernel
theorem d4_102 : decode prog_28_method_4_code 102 = .ok (.goto 29, 3) := by decide +kernel
theorem d4_105 : decode prog_28_method_4_code 105 = .ok (.aload_n 0, 1) := by decide +kernel
theorem d4_106 : decode prog_28_method_4_code 106 = .ok (.getfield 13, 3) := by decide +kernel
theorem d4_109 : decode prog_28_method_4_code 109 = .ok (.iload_n 3, 1) := by decide +kernel
theorem d4_110 : decode prog_28_method_4_code 110 = .ok (.aload_n 0, 1) := by decide +kernel
theorem d4_111 : decode prog_28_method_4_code 111 = .ok (.getfield 13, 3) := by decide +kernel
theorem d4_114 : decode prog_28_method_4_code 114 = .ok (.iload 4, 2) := by decide +kernel
theorem d4_116 : decode prog_28_method_4_code 116 = .ok (.iaload, 1) := by decide +kernel
theorem d4_117 : decode prog_28_method_4_code 117 = .ok (.iastore, 1) := by decide +kernel
theorem d4_118 : decode prog_28_method_4_code 118 = .ok (.iload 4, 2) := by decide +kernel
theorem d4_120 : decode prog_28_method_4_code 120 = .ok (.istore_n 3, 1) := by decide +kernel
theorem d4_121 : decode prog_28_method_4_code 121 = .ok (.iconst 2, 1) := by decide +kernel
theorem d4_122 : decode prog_28_method_4_code 122 = .ok (.iload_n 3, 1) := by decide +kernel
theorem d4_123 : decode prog_28_method_4_code 123 = .ok (.imul, 1) := by decide +kernel
theorem d4_124 : decode prog_28_method_4_code 124 = .ok (.iconst 1, 1) := by decide +kernel
theorem d4_125 : decode prog_28_method_4_code 125 = .ok (.iadd, 1) := by decide +kernel
theorem d4_126 : decode prog_28_method_4_code 126 = .ok (.istore 4, 2) := by decide +kernel
theorem d4_128 : decode prog_28_method_4_code 128 = .ok (.goto (-99), 3) := by decide +kernel
set_option maxRecDepth 65536 in
set_option maxHeartbeats 40000000 in
theorem own_poll2 (l : Launch) (Z : State) (a0 : Array Value) (hw : ∀ d ∈ tables_1, d.before a0 Z = true) (a : Addr) (r q : Addr) (r0_ r1_ r2_ r3_ r4_ x0_ x1_ x2_ x3_ x4_ : Int32) (h0 : Heap) (n0 : Nat) (Z_ : n0 ≤ h0.size) (E_a : Exa Z h0 a "com/example/precedence/precedence/IntHeap") (F_a_rank : Fld Z h0 a "com/example/precedence/precedence/IntHeap" "rank" "[I" (.ref r)) (F_a_heap : Fld Z h0 a "com/example/precedence/precedence/IntHeap" "heap" "[I" (.ref q)) (F_a_size : Fld Z h0 a "com/example/precedence/precedence/IntHeap" "size" "I" (.int (3 : Int32))) (g_a : n0 ≤ a) (A_r : AI Z h0 r .int [r0_, r1_, r2_, r3_, r4_]) (A_q : AI Z h0 q .int [x0_, x1_, x2_, x3_, x4_]) (g_q : n0 ≤ q) (ne_a_r : a ≠ r) (ne_a_q : a ≠ q) (ne_r_q : r ≠ q) (hi_x0_ : own_in x0_) (hi_x1_ : own_in x1_) (hi_x2_ : own_in x2_) :
    Met l (⟨"com/example/precedence/precedence/IntHeap", "poll", "()I"⟩ : MethodName) prog_28_method_4_code 5 (some .int) [] ({ frames := 0, cells := 0, slots := 0, locals := 0 } : Room) Z n0 #[(.ref a)] h0 (fun v h => v = some (.int x0_) ∧ Keep h0 h [a, q] ∧ Fld Z h a "com/example/precedence/precedence/IntHeap" "rank" "[I" (.ref r) ∧ Fld Z h a "com/example/precedence/precedence/IntHeap" "heap" "[I" (.ref q) ∧ Fld Z h a "com/example/precedence/precedence/IntHeap" "size" "I" (.int (2 : Int32)) ∧ AI Z h q .int [(own_r2 (own_lt [r0_, r1_, r2_, r3_, r4_]) x0_ x1_ x2_).1, (own_r2 (own_lt [r0_, r1_, r2_, r3_, r4_]) x0_ x1_ x2_).2, x2_, x3_, x4_]) := by
  refine own_met pn4 (fun m => ef4 m a) ?_
  intro p e s m below meth c C
  have K_ : Keep h0 h0 [a, q] := Keep.refl _ _
  refine own_aloadN (pc' := 1) C d4_0 rfl rfl rfl ?_
  refine own_getfield (pc' := 4) C d4_1 (hw _ (List.mem_of_getElem? (i := 12) rfl)) F_a_heap rfl ?_
  refine own_iconst (pc' := 5) (v := (0 : Int32)) C d4_4 own_ki_0 rfl ?_
  refine own_iaload (pc' := 6) (v := x0_) (i := 0) C d4_5 A_q (by decide) rfl rfl rfl ?_
  refine own_istoreN (pc' := 7) (y := x0_) (Ls' := #[.val (.ref a), .val (.int x0_), .unset, .unset, .unset]) C d4_6 rfl rfl rfl ?_
  refine own_aloadN (pc' := 8) C d4_7 rfl rfl rfl ?_
  refine own_getfield (pc' := 11) C d4_8 (hw _ (List.mem_of_getElem? (i := 12) rfl)) F_a_heap rfl ?_
  refine own_aloadN (pc' := 12) C d4_11 rfl rfl rfl ?_
  refine own_dup (pc' := 13) C d4_12 rfl rfl ?_
  refine own_getfield (pc' := 16) C d4_13 (hw _ (List.mem_of_getElem? (i := 19) rfl)) F_a_size rfl ?_
  refine own_iconst (pc' := 17) (v := (1 : Int32)) C d4_16 own_ki_1 rfl ?_
  refine own_isub (pc' := 18) (v := (2 : Int32)) C d4_17 (by decide) rfl ?_
  refine own_dupX1 (pc' := 19) C d4_18 rfl rfl rfl ?_
  refine own_putfield (pc' := 22) C d4_19 (hw _ (List.mem_of_getElem? (i := 19) rfl)) F_a_size E_a (Or.inl (hw _ (List.mem_of_getElem? (i := 20) rfl))) (hw _ (List.mem_of_getElem? (i := 2) rfl)) (ty := .int) (by decide) rfl rfl g_a rfl ?_
  intro h1 W1 F1_
  replace E_a := E_a.wr W1
  replace F_a_rank := F_a_rank.other W1 (Or.inr (slot_ne (Or.inr (hw _ (List.mem_of_getElem? (i := 11) rfl))) (Or.inl (hw _ (List.mem_of_getElem? (i := 20) rfl))) (by decide) (t := (.array .int)) (t' := .int) (by decide) (by decide)))
  replace F_a_heap := F_a_heap.other W1 (Or.inr (slot_ne (Or.inr (hw _ (List.mem_of_getElem? (i := 13) rfl))) (Or.inl (hw _ (List.mem_of_getElem? (i := 20) rfl))) (by decide) (t := (.array .int)) (t' := .int) (by decide) (by decide)))
  replace A_r := A_r.other W1 (Ne.symm ne_a_r)
  replace A_q := A_q.other W1 (Ne.symm ne_a_q)
  replace F_a_size := F1_
  replace Z_ : n0 ≤ _ := Nat.le_trans Z_ (Nat.le_of_eq W1.size.symm)
  replace K_ := K_.wr W1 (Or.inl (List.mem_of_getElem? (i := 0) rfl))
  refine own_iaload (pc' := 23) (v := x2_) (i := 2) C d4_22 A_q (by decide) rfl rfl rfl ?_
  refine own_istoreN (pc' := 24) (y := x2_) (Ls' := #[.val (.ref a), .val (.int x0_), .val (.int x2_), .unset, .unset]) C d4_23 rfl rfl rfl ?_
  refine own_iconst (pc' := 25) (v := (0 : Int32)) C d4_24 own_ki_0 rfl ?_
  refine own_istoreN (pc' := 26) (y := (0 : Int32)) (Ls' := #[.val (.ref a), .val (.int x0_), .val (.int x2_), .val (.int (0 : Int32)), .unset]) C d4_25 rfl rfl rfl ?_
  refine own_iconst (pc' := 27) (v := (1 : Int32)) C d4_26 own_ki_1 rfl ?_
  refine own_istore (pc' := 29) (y := (1 : Int32)) (Ls' := #[.val (.ref a), .val (.int x0_), .val (.int x2_), .val (.int (0 : Int32)), .val (.int (1 : Int32))]) C d4_27 rfl rfl rfl ?_
  refine own_iload (pc' := 31) C d4_29 rfl rfl ?_
  refine own_aloadN (pc' := 32) C d4_31 rfl rfl rfl ?_
  refine own_getfield (pc' := 35) C d4_32 (hw _ (List.mem_of_getElem? (i := 19) rfl)) F_a_size rfl ?_
  refine own_icmp_ge (pt := 131) (pf := 38) C d4_35 (by decide) (by decide) rfl (fun q => absurd (by decide) q) (fun _ => ?_)
  refine own_iload (pc' := 40) C d4_38 rfl rfl ?_
  refine own_iconst (pc' := 41) (v := (1 : Int32)) C d4_40 own_ki_1 rfl ?_
  refine own_iadd (pc' := 42) (v := (2 : Int32)) C d4_41 (by decide) rfl ?_
  refine own_aloadN (pc' := 43) C d4_42 rfl rfl rfl ?_
  refine own_getfield (pc' := 46) C d4_43 (hw _ (List.mem_of_getElem? (i := 19) rfl)) F_a_size rfl ?_
  refine own_icmp_ge (pt := 81) (pf := 49) C d4_46 (by decide) (by decide) rfl (fun _ => ?_) (fun q => absurd q (by decide))
  refine own_aloadN (pc' := 82) C d4_81 rfl rfl rfl ?_
  refine own_getfield (pc' := 85) C d4_82 (hw _ (List.mem_of_getElem? (i := 10) rfl)) F_a_rank rfl ?_
  refine own_aloadN (pc' := 86) C d4_85 rfl rfl rfl ?_
  refine own_getfield (pc' := 89) C d4_86 (hw _ (List.mem_of_getElem? (i := 12) rfl)) F_a_heap rfl ?_
  refine own_iload (pc' := 91) C d4_89 rfl rfl ?_
  refine own_iaload (pc' := 92) (v := x1_) (i := 1) C d4_91 A_q (by decide) rfl rfl rfl ?_
  refine own_iaload (pc' := 93) (v := (own_rk [r0_, r1_, r2_, r3_, r4_] x1_)) (i := x1_.toNatClampNeg) C d4_92 A_r hi_x1_.1 rfl (own_get hi_x1_) rfl ?_
  refine own_aloadN (pc' := 94) C d4_93 rfl rfl rfl ?_
  refine own_getfield (pc' := 97) C d4_94 (hw _ (List.mem_of_getElem? (i := 10) rfl)) F_a_rank rfl ?_
  refine own_iloadN (pc' := 98) C d4_97 rfl rfl ?_
  refine own_iaload (pc' := 99) (v := (own_rk [r0_, r1_, r2_, r3_, r4_] x2_)) (i := x2_.toNatClampNeg) C d4_98 A_r hi_x2_.1 rfl (own_get hi_x2_) rfl ?_
  refine own_icmp_le (pt := 105) (pf := 102) C d4_99 (by decide) (by decide) rfl ?_ ?_
  · intro hc99
    refine own_aloadN (pc' := 106) C d4_105 rfl rfl rfl ?_
    refine own_getfield (pc' := 109) C d4_106 (hw _ (List.mem_of_getElem? (i := 12) rfl)) F_a_heap rfl ?_
    refine own_iloadN (pc' := 110) C d4_109 rfl rfl ?_
    refine own_aloadN (pc' := 111) C d4_110 rfl rfl rfl ?_
    refine own_getfield (pc' := 114) C d4_111 (hw _ (List.mem_of_getElem? (i := 12) rfl)) F_a_heap rfl ?_
    refine own_iload (pc' := 116) C d4_114 rfl rfl ?_
    refine own_iaload (pc' := 117) (v := x1_) (i := 1) C d4_116 A_q (by decide) rfl rfl rfl ?_
    refine own_iastore (pc' := 118) (i := 0) (ys := [x1_, x1_, x2_, x3_, x4_]) C d4_117 A_q (by decide) rfl (Nat.le_of_ble_eq_true rfl) rfl g_q rfl ?_
    intro h2 W2 A2_
    replace E_a := E_a.wr W2
    replace F_a_rank := F_a_rank.other W2 (Or.inl ne_a_q)
    replace F_a_heap := F_a_heap.other W2 (Or.inl ne_a_q)
    replace F_a_size := F_a_size.other W2 (Or.inl ne_a_q)
    replace A_r := A_r.other W2 ne_r_q
    replace A_q := A2_
    replace Z_ : n0 ≤ _ := Nat.le_trans Z_ (Nat.le_of_eq W2.size.symm)
    replace K_ := K_.wr W2 (Or.inl (List.mem_of_getElem? (i := 1) rfl))
    refine own_iload (pc' := 120) C d4_118 rfl rfl ?_
    refine own_istoreN (pc' := 121) (y := (1 : Int32)) (Ls' := #[.val (.ref a), .val (.int x0_), .val (.int x2_), .val (.int (1 : Int32)), .val (.int (1 : Int32))]) C d4_120 rfl rfl rfl ?_
    refine own_iconst (pc' := 122) (v := (2 : Int32)) C d4_121 own_ki_2 rfl ?_
    refine own_iloadN (pc' := 123) C d4_122 rfl rfl ?_
    refine own_imul (pc' := 124) (v := (2 : Int32)) C d4_123 (by decide) rfl ?_
    refine own_iconst (pc' := 125) (v := (1 : Int32)) C d4_124 own_ki_1 rfl ?_
    refine own_iadd (pc' := 126) (v := (3 : Int32)) C d4_125 (by decide) rfl ?_
    refine own_istore (pc' := 128) (y := (3 : Int32)) (Ls' := #[.val (.ref a), .val (.int x0_), .val (.int x2_), .val (.int (1 : Int32)), .val (.int (3 : Int32))]) C d4_126 rfl rfl rfl ?_
    refine own_goto (pc' := 29) C d4_128 (by decide) (by decide) ?_
    refine own_iload (pc' := 31) C d4_29 rfl rfl ?_
    refine own_aloadN (pc' := 32) C d4_31 rfl rfl rfl ?_
    refine own_getfield (pc' := 35) C d4_32 (hw _ (List.mem_of_getElem? (i := 19) rfl)) F_a_size rfl ?_
    refine own_icmp_ge (pt := 131) (pf := 38) C d4_35 (by decide) (by decide) rfl (fun _ => ?_) (fun q => absurd q (by decide))
    refine own_aloadN (pc' := 132) C d4_131 rfl rfl rfl ?_
    refine own_getfield (pc' := 135) C d4_132 (hw _ (List.mem_of_getElem? (i := 12) rfl)) F_a_heap rfl ?_
    refine own_iloadN (pc' := 136) C d4_135 rfl rfl ?_
    refine own_iloadN (pc' := 137) C d4_136 rfl rfl ?_
    refine own_iastore (pc' := 138) (i := 1) (ys := [x1_, x2_, x2_, x3_, x4_]) C d4_137 A_q (by decide) rfl (Nat.le_of_ble_eq_true rfl) rfl g_q rfl ?_
    intro h3 W3 A3_
    replace E_a := E_a.wr W3
    replace F_a_rank := F_a_rank.other W3 (Or.inl ne_a_q)
    replace F_a_heap := F_a_heap.other W3 (Or.inl ne_a_q)
    replace F_a_size := F_a_size.other W3 (Or.inl ne_a_q)
    replace A_r := A_r.other W3 ne_r_q
    replace A_q := A3_
    replace Z_ : n0 ≤ _ := Nat.le_trans Z_ (Nat.le_of_eq W3.size.symm)
    replace K_ := K_.wr W3 (Or.inl (List.mem_of_getElem? (i := 1) rfl))
    refine own_iloadN (pc' := 139) C d4_138 rfl rfl ?_
    refine own_iret C d4_139 (by decide) (by decide) ?_
    have l_hc99 : own_lt [r0_, r1_, r2_, r3_, r4_] x2_ x1_ = false := by simp [own_lt, hc99]
    refine ⟨rfl, K_, F_a_rank, F_a_heap, F_a_size, ?_⟩
    simp only [own_r2, l_hc99, if_true, if_false, Bool.false_eq_true]; exact A_q
  · intro hc99
    refine own_goto (pc' := 131) C d4_102 (by decide) (by decide) ?_
    refine own_aloadN (pc' := 132) C d4_131 rfl rfl rfl ?_
    refine own_getfield (pc' := 135) C d4_132 (hw _ (List.mem_of_getElem? (i := 12) rfl)) F_a_heap rfl ?_
    refine own_iloadN (pc' := 136) C d4_135 rfl rfl ?_
    refine own_iloadN (pc' := 137) C d4_136 rfl rfl ?_
    refine own_iastore (pc' := 138) (i := 0) (ys := [x2_, x1_, x2_, x3_, x4_]) C d4_137 A_q (by decide) rfl (Nat.le_of_ble_eq_true rfl) rfl g_q rfl ?_
    intro h2 W2 A2_
    replace E_a := E_a.wr W2
    replace F_a_rank := F_a_rank.other W2 (Or.inl ne_a_q)
    replace F_a_heap := F_a_heap.other W2 (Or.inl ne_a_q)
    replace F_a_size := F_a_size.other W2 (Or.inl ne_a_q)
    replace A_r := A_r.other W2 ne_r_q
    replace A_q := A2_
    replace Z_ : n0 ≤ _ := Nat.le_trans Z_ (Nat.le_of_eq W2.size.symm)
    replace K_ := K_.wr W2 (Or.inl (List.mem_of_getElem? (i := 1) rfl))
    refine own_iloadN (pc' := 139) C d4_138 rfl rfl ?_
    refine own_iret C d4_139 (by decide) (by decide) ?_
    have l_hc99 : own_lt [r0_, r1_, r2_, r3_, r4_] x2_ x1_ = true := by simp [own_lt, hc99]
    refine ⟨rfl, K_, F_a_rank, F_a_heap, F_a_size, ?_⟩
    simp only [own_r2, l_hc99, if_true, if_false, Bool.false_eq_true]; exact A_q

theorem d4_49 : decode prog_28_method_4_code 49 = .ok (.aload_n 0, 1) := by decide +kernel
theorem d4_50 : decode prog_28_method_4_code 50 = .ok (.getfield 7, 3) := by decide +kernel
theorem d4_53 : decode prog_28_method_4_code 53 = .ok (.aload_n 0, 1) := by decide +kernel
theorem d4_54 : decode prog_28_method_4_code 54 = .ok (.getfield 13, 3) := by decide +kernel
theorem d4_57 : decode prog_28_method_4_code 57 = .ok (.iload 4, 2) := by decide +kernel
theorem d4_59 : decode prog_28_method_4_code 59 = .ok (.iconst 1, 1) := by decide +kernel
theorem d4_60 : decode prog_28_method_4_code 60 = .ok (.iadd, 1) := by decide +kernel
theorem d4_61 : decode prog_28_method_4_code 61 = .ok (.iaload, 1) := by decide +kernel
theorem d4_62 : decode prog_28_method_4_code 62 = .ok (.iaload, 1) := by decide +kernel
theorem d4_63 : decode prog_28_method_4_code 63 = .ok (.aload_n 0, 1) := by decide +kernel
theorem d4_64 : decode prog_28_method_4_code 64 = .ok (.getfield 7, 3) := by decide +kernel
theorem d4_67 : decode prog_28_method_4_code 67 = .ok (.aload_n 0, 1) := by decide +kernel
theorem d4_68 : decode prog_28_method_4_code 68 = .ok (.getfield 13, 3) := by decide +kernel
theorem d4_71 : decode prog_28_method_4_code 71 = .ok (.iload 4, 2) := by decide +kernel
theorem d4_73 : decode prog_28_method_4_code 73 = .ok (.iaload, 1) := by decide +kernel
theorem d4_74 : decode prog_28_method_4_code 74 = .ok (.iaload, 1) := by decide +kernel
theorem d4_75 : decode prog_28_method_4_code 75 = .ok (.if_icmp .ge 6, 3) := by decide +kernel
theorem d4_78 : decode prog_28_method_4_code 78 = .ok (.iinc 4 1, 3) := by decide +kernel
set_option maxRecDepth 65536 in
set_option maxHeartbeats 40000000 in
theorem own_poll3 (l : Launch) (Z : State) (a0 : Array Value) (hw : ∀ d ∈ tables_1, d.before a0 Z = true) (a : Addr) (r q : Addr) (r0_ r1_ r2_ r3_ r4_ x0_ x1_ x2_ x3_ x4_ : Int32) (h0 : Heap) (n0 : Nat) (Z_ : n0 ≤ h0.size) (E_a : Exa Z h0 a "com/example/precedence/precedence/IntHeap") (F_a_rank : Fld Z h0 a "com/example/precedence/precedence/IntHeap" "rank" "[I" (.ref r)) (F_a_heap : Fld Z h0 a "com/example/precedence/precedence/IntHeap" "heap" "[I" (.ref q)) (F_a_size : Fld Z h0 a "com/example/precedence/precedence/IntHeap" "size" "I" (.int (4 : Int32))) (g_a : n0 ≤ a) (A_r : AI Z h0 r .int [r0_, r1_, r2_, r3_, r4_]) (A_q : AI Z h0 q .int [x0_, x1_, x2_, x3_, x4_]) (g_q : n0 ≤ q) (ne_a_r : a ≠ r) (ne_a_q : a ≠ q) (ne_r_q : r ≠ q) (hi_x0_ : own_in x0_) (hi_x1_ : own_in x1_) (hi_x2_ : own_in x2_) (hi_x3_ : own_in x3_) :
    Met l (⟨"com/example/precedence/precedence/IntHeap", "poll", "()I"⟩ : MethodName) prog_28_method_4_code 5 (some .int) [] ({ frames := 0, cells := 0, slots := 0, locals := 0 } : Room) Z n0 #[(.ref a)] h0 (fun v h => v = some (.int x0_) ∧ Keep h0 h [a, q] ∧ Fld Z h a "com/example/precedence/precedence/IntHeap" "rank" "[I" (.ref r) ∧ Fld Z h a "com/example/precedence/precedence/IntHeap" "heap" "[I" (.ref q) ∧ Fld Z h a "com/example/precedence/precedence/IntHeap" "size" "I" (.int (3 : Int32)) ∧ AI Z h q .int [(own_r3 (own_lt [r0_, r1_, r2_, r3_, r4_]) x0_ x1_ x2_ x3_).1, (own_r3 (own_lt [r0_, r1_, r2_, r3_, r4_]) x0_ x1_ x2_ x3_).2.1, (own_r3 (own_lt [r0_, r1_, r2_, r3_, r4_]) x0_ x1_ x2_ x3_).2.2, x3_, x4_]) := by
  refine own_met pn4 (fun m => ef4 m a) ?_
  intro p e s m below meth c C
  have K_ : Keep h0 h0 [a, q] := Keep.refl _ _
  refine own_aloadN (pc' := 1) C d4_0 rfl rfl rfl ?_
  refine own_getfield (pc' := 4) C d4_1 (hw _ (List.mem_of_getElem? (i := 12) rfl)) F_a_heap rfl ?_
  refine own_iconst (pc' := 5) (v := (0 : Int32)) C d4_4 own_ki_0 rfl ?_
  refine own_iaload (pc' := 6) (v := x0_) (i := 0) C d4_5 A_q (by decide) rfl rfl rfl ?_
  refine own_istoreN (pc' := 7) (y := x0_) (Ls' := #[.val (.ref a), .val (.int x0_), .unset, .unset, .unset]) C d4_6 rfl rfl rfl ?_
  refine own_aloadN (pc' := 8) C d4_7 rfl rfl rfl ?_
  refine own_getfield (pc' := 11) C d4_8 (hw _ (List.mem_of_getElem? (i := 12) rfl)) F_a_heap rfl ?_
  refine own_aloadN (pc' := 12) C d4_11 rfl rfl rfl ?_
  refine own_dup (pc' := 13) C d4_12 rfl rfl ?_
  refine own_getfield (pc' := 16) C d4_13 (hw _ (List.mem_of_getElem? (i := 19) rfl)) F_a_size rfl ?_
  refine own_iconst (pc' := 17) (v := (1 : Int32)) C d4_16 own_ki_1 rfl ?_
  refine own_isub (pc' := 18) (v := (3 : Int32)) C d4_17 (by decide) rfl ?_
  refine own_dupX1 (pc' := 19) C d4_18 rfl rfl rfl ?_
  refine own_putfield (pc' := 22) C d4_19 (hw _ (List.mem_of_getElem? (i := 19) rfl)) F_a_size E_a (Or.inl (hw _ (List.mem_of_getElem? (i := 20) rfl))) (hw _ (List.mem_of_getElem? (i := 2) rfl)) (ty := .int) (by decide) rfl rfl g_a rfl ?_
  intro h1 W1 F1_
  replace E_a := E_a.wr W1
  replace F_a_rank := F_a_rank.other W1 (Or.inr (slot_ne (Or.inr (hw _ (List.mem_of_getElem? (i := 11) rfl))) (Or.inl (hw _ (List.mem_of_getElem? (i := 20) rfl))) (by decide) (t := (.array .int)) (t' := .int) (by decide) (by decide)))
  replace F_a_heap := F_a_heap.other W1 (Or.inr (slot_ne (Or.inr (hw _ (List.mem_of_getElem? (i := 13) rfl))) (Or.inl (hw _ (List.mem_of_getElem? (i := 20) rfl))) (by decide) (t := (.array .int)) (t' := .int) (by decide) (by decide)))
  replace A_r := A_r.other W1 (Ne.symm ne_a_r)
  replace A_q := A_q.other W1 (Ne.symm ne_a_q)
  replace F_a_size := F1_
  replace Z_ : n0 ≤ _ := Nat.le_trans Z_ (Nat.le_of_eq W1.size.symm)
  replace K_ := K_.wr W1 (Or.inl (List.mem_of_getElem? (i := 0) rfl))
  refine own_iaload (pc' := 23) (v := x3_) (i := 3) C d4_22 A_q (by decide) rfl rfl rfl ?_
  refine own_istoreN (pc' := 24) (y := x3_) (Ls' := #[.val (.ref a), .val (.int x0_), .val (.int x3_), .unset, .unset]) C d4_23 rfl rfl rfl ?_
  refine own_iconst (pc' := 25) (v := (0 : Int32)) C d4_24 own_ki_0 rfl ?_
  refine own_istoreN (pc' := 26) (y := (0 : Int32)) (Ls' := #[.val (.ref a), .val (.int x0_), .val (.int x3_), .val (.int (0 : Int32)), .unset]) C d4_25 rfl rfl rfl ?_
  refine own_iconst (pc' := 27) (v := (1 : Int32)) C d4_26 own_ki_1 rfl ?_
  refine own_istore (pc' := 29) (y := (1 : Int32)) (Ls' := #[.val (.ref a), .val (.int x0_), .val (.int x3_), .val (.int (0 : Int32)), .val (.int (1 : Int32))]) C d4_27 rfl rfl rfl ?_
  refine own_iload (pc' := 31) C d4_29 rfl rfl ?_
  refine own_aloadN (pc' := 32) C d4_31 rfl rfl rfl ?_
  refine own_getfield (pc' := 35) C d4_32 (hw _ (List.mem_of_getElem? (i := 19) rfl)) F_a_size rfl ?_
  refine own_icmp_ge (pt := 131) (pf := 38) C d4_35 (by decide) (by decide) rfl (fun q => absurd (by decide) q) (fun _ => ?_)
  refine own_iload (pc' := 40) C d4_38 rfl rfl ?_
  refine own_iconst (pc' := 41) (v := (1 : Int32)) C d4_40 own_ki_1 rfl ?_
  refine own_iadd (pc' := 42) (v := (2 : Int32)) C d4_41 (by decide) rfl ?_
  refine own_aloadN (pc' := 43) C d4_42 rfl rfl rfl ?_
  refine own_getfield (pc' := 46) C d4_43 (hw _ (List.mem_of_getElem? (i := 19) rfl)) F_a_size rfl ?_
  refine own_icmp_ge (pt := 81) (pf := 49) C d4_46 (by decide) (by decide) rfl (fun q => absurd (by decide) q) (fun _ => ?_)
  refine own_aloadN (pc' := 50) C d4_49 rfl rfl rfl ?_
  refine own_getfield (pc' := 53) C d4_50 (hw _ (List.mem_of_getElem? (i := 10) rfl)) F_a_rank rfl ?_
  refine own_aloadN (pc' := 54) C d4_53 rfl rfl rfl ?_
  refine own_getfield (pc' := 57) C d4_54 (hw _ (List.mem_of_getElem? (i := 12) rfl)) F_a_heap rfl ?_
  refine own_iload (pc' := 59) C d4_57 rfl rfl ?_
  refine own_iconst (pc' := 60) (v := (1 : Int32)) C d4_59 own_ki_1 rfl ?_
  refine own_iadd (pc' := 61) (v := (2 : Int32)) C d4_60 (by decide) rfl ?_
  refine own_iaload (pc' := 62) (v := x2_) (i := 2) C d4_61 A_q (by decide) rfl rfl rfl ?_
  refine own_iaload (pc' := 63) (v := (own_rk [r0_, r1_, r2_, r3_, r4_] x2_)) (i := x2_.toNatClampNeg) C d4_62 A_r hi_x2_.1 rfl (own_get hi_x2_) rfl ?_
  refine own_aloadN (pc' := 64) C d4_63 rfl rfl rfl ?_
  refine own_getfield (pc' := 67) C d4_64 (hw _ (List.mem_of_getElem? (i := 10) rfl)) F_a_rank rfl ?_
  refine own_aloadN (pc' := 68) C d4_67 rfl rfl rfl ?_
  refine own_getfield (pc' := 71) C d4_68 (hw _ (List.mem_of_getElem? (i := 12) rfl)) F_a_heap rfl ?_
  refine own_iload (pc' := 73) C d4_71 rfl rfl ?_
  refine own_iaload (pc' := 74) (v := x1_) (i := 1) C d4_73 A_q (by decide) rfl rfl rfl ?_
  refine own_iaload (pc' := 75) (v := (own_rk [r0_, r1_, r2_, r3_, r4_] x1_)) (i := x1_.toNatClampNeg) C d4_74 A_r hi_x1_.1 rfl (own_get hi_x1_) rfl ?_
  refine own_icmp_ge (pt := 81) (pf := 78) C d4_75 (by decide) (by decide) rfl ?_ ?_
  · intro hc75
    refine own_aloadN (pc' := 82) C d4_81 rfl rfl rfl ?_
    refine own_getfield (pc' := 85) C d4_82 (hw _ (List.mem_of_getElem? (i := 10) rfl)) F_a_rank rfl ?_
    refine own_aloadN (pc' := 86) C d4_85 rfl rfl rfl ?_
    refine own_getfield (pc' := 89) C d4_86 (hw _ (List.mem_of_getElem? (i := 12) rfl)) F_a_heap rfl ?_
    refine own_iload (pc' := 91) C d4_89 rfl rfl ?_
    refine own_iaload (pc' := 92) (v := x1_) (i := 1) C d4_91 A_q (by decide) rfl rfl rfl ?_
    refine own_iaload (pc' := 93) (v := (own_rk [r0_, r1_, r2_, r3_, r4_] x1_)) (i := x1_.toNatClampNeg) C d4_92 A_r hi_x1_.1 rfl (own_get hi_x1_) rfl ?_
    refine own_aloadN (pc' := 94) C d4_93 rfl rfl rfl ?_
    refine own_getfield (pc' := 97) C d4_94 (hw _ (List.mem_of_getElem? (i := 10) rfl)) F_a_rank rfl ?_
    refine own_iloadN (pc' := 98) C d4_97 rfl rfl ?_
    refine own_iaload (pc' := 99) (v := (own_rk [r0_, r1_, r2_, r3_, r4_] x3_)) (i := x3_.toNatClampNeg) C d4_98 A_r hi_x3_.1 rfl (own_get hi_x3_) rfl ?_
    refine own_icmp_le (pt := 105) (pf := 102) C d4_99 (by decide) (by decide) rfl ?_ ?_
    · intro hc99
      refine own_aloadN (pc' := 106) C d4_105 rfl rfl rfl ?_
      refine own_getfield (pc' := 109) C d4_106 (hw _ (List.mem_of_getElem? (i := 12) rfl)) F_a_heap rfl ?_
      refine own_iloadN (pc' := 110) C d4_109 rfl rfl ?_
      refine own_aloadN (pc' := 111) C d4_110 rfl rfl rfl ?_
      refine own_getfield (pc' := 114) C d4_111 (hw _ (List.mem_of_getElem? (i := 12) rfl)) F_a_heap rfl ?_
      refine own_iload (pc' := 116) C d4_114 rfl rfl ?_
      refine own_iaload (pc' := 117) (v := x1_) (i := 1) C d4_116 A_q (by decide) rfl rfl rfl ?_
      refine own_iastore (pc' := 118) (i := 0) (ys := [x1_, x1_, x2_, x3_, x4_]) C d4_117 A_q (by decide) rfl (Nat.le_of_ble_eq_true rfl) rfl g_q rfl ?_
      intro h2 W2 A2_
      replace E_a := E_a.wr W2
      replace F_a_rank := F_a_rank.other W2 (Or.inl ne_a_q)
      replace F_a_heap := F_a_heap.other W2 (Or.inl ne_a_q)
      replace F_a_size := F_a_size.other W2 (Or.inl ne_a_q)
      replace A_r := A_r.other W2 ne_r_q
      replace A_q := A2_
      replace Z_ : n0 ≤ _ := Nat.le_trans Z_ (Nat.le_of_eq W2.size.symm)
      replace K_ := K_.wr W2 (Or.inl (List.mem_of_getElem? (i := 1) rfl))
      refine own_iload (pc' := 120) C d4_118 rfl rfl ?_
      refine own_istoreN (pc' := 121) (y := (1 : Int32)) (Ls' := #[.val (.ref a), .val (.int x0_), .val (.int x3_), .val (.int (1 : Int32)), .val (.int (1 : Int32))]) C d4_120 rfl rfl rfl ?_
      refine own_iconst (pc' := 122) (v := (2 : Int32)) C d4_121 own_ki_2 rfl ?_
      refine own_iloadN (pc' := 123) C d4_122 rfl rfl ?_
      refine own_imul (pc' := 124) (v := (2 : Int32)) C d4_123 (by decide) rfl ?_
      refine own_iconst (pc' := 125) (v := (1 : Int32)) C d4_124 own_ki_1 rfl ?_
      refine own_iadd (pc' := 126) (v := (3 : Int32)) C d4_125 (by decide) rfl ?_
      refine own_istore (pc' := 128) (y := (3 : Int32)) (Ls' := #[.val (.ref a), .val (.int x0_), .val (.int x3_), .val (.int (1 : Int32)), .val (.int (3 : Int32))]) C d4_126 rfl rfl rfl ?_
      refine own_goto (pc' := 29) C d4_128 (by decide) (by decide) ?_
      refine own_iload (pc' := 31) C d4_29 rfl rfl ?_
      refine own_aloadN (pc' := 32) C d4_31 rfl rfl rfl ?_
      refine own_getfield (pc' := 35) C d4_32 (hw _ (List.mem_of_getElem? (i := 19) rfl)) F_a_size rfl ?_
      refine own_icmp_ge (pt := 131) (pf := 38) C d4_35 (by decide) (by decide) rfl (fun _ => ?_) (fun q => absurd q (by decide))
      refine own_aloadN (pc' := 132) C d4_131 rfl rfl rfl ?_
      refine own_getfield (pc' := 135) C d4_132 (hw _ (List.mem_of_getElem? (i := 12) rfl)) F_a_heap rfl ?_
      refine own_iloadN (pc' := 136) C d4_135 rfl rfl ?_
      refine own_iloadN (pc' := 137) C d4_136 rfl rfl ?_
      refine own_iastore (pc' := 138) (i := 1) (ys := [x1_, x3_, x2_, x3_, x4_]) C d4_137 A_q (by decide) rfl (Nat.le_of_ble_eq_true rfl) rfl g_q rfl ?_
      intro h3 W3 A3_
      replace E_a := E_a.wr W3
      replace F_a_rank := F_a_rank.other W3 (Or.inl ne_a_q)
      replace F_a_heap := F_a_heap.other W3 (Or.inl ne_a_q)
      replace F_a_size := F_a_size.other W3 (Or.inl ne_a_q)
      replace A_r := A_r.other W3 ne_r_q
      replace A_q := A3_
      replace Z_ : n0 ≤ _ := Nat.le_trans Z_ (Nat.le_of_eq W3.size.symm)
      replace K_ := K_.wr W3 (Or.inl (List.mem_of_getElem? (i := 1) rfl))
      refine own_iloadN (pc' := 139) C d4_138 rfl rfl ?_
      refine own_iret C d4_139 (by decide) (by decide) ?_
      have l_hc75 : own_lt [r0_, r1_, r2_, r3_, r4_] x2_ x1_ = false := by simp [own_lt, hc75]
      have l_hc99 : own_lt [r0_, r1_, r2_, r3_, r4_] x3_ x1_ = false := by simp [own_lt, hc99]
      refine ⟨rfl, K_, F_a_rank, F_a_heap, F_a_size, ?_⟩
      simp only [own_r3, l_hc75, l_hc99, if_true, if_false, Bool.false_eq_true]; exact A_q
    · intro hc99
      refine own_goto (pc' := 131) C d4_102 (by decide) (by decide) ?_
      refine own_aloadN (pc' := 132) C d4_131 rfl rfl rfl ?_
      refine own_getfield (pc' := 135) C d4_132 (hw _ (List.mem_of_getElem? (i := 12) rfl)) F_a_heap rfl ?_
      refine own_iloadN (pc' := 136) C d4_135 rfl rfl ?_
      refine own_iloadN (pc' := 137) C d4_136 rfl rfl ?_
      refine own_iastore (pc' := 138) (i := 0) (ys := [x3_, x1_, x2_, x3_, x4_]) C d4_137 A_q (by decide) rfl (Nat.le_of_ble_eq_true rfl) rfl g_q rfl ?_
      intro h2 W2 A2_
      replace E_a := E_a.wr W2
      replace F_a_rank := F_a_rank.other W2 (Or.inl ne_a_q)
      replace F_a_heap := F_a_heap.other W2 (Or.inl ne_a_q)
      replace F_a_size := F_a_size.other W2 (Or.inl ne_a_q)
      replace A_r := A_r.other W2 ne_r_q
      replace A_q := A2_
      replace Z_ : n0 ≤ _ := Nat.le_trans Z_ (Nat.le_of_eq W2.size.symm)
      replace K_ := K_.wr W2 (Or.inl (List.mem_of_getElem? (i := 1) rfl))
      refine own_iloadN (pc' := 139) C d4_138 rfl rfl ?_
      refine own_iret C d4_139 (by decide) (by decide) ?_
      have l_hc75 : own_lt [r0_, r1_, r2_, r3_, r4_] x2_ x1_ = false := by simp [own_lt, hc75]
      have l_hc99 : own_lt [r0_, r1_, r2_, r3_, r4_] x3_ x1_ = true := by simp [own_lt, hc99]
      refine ⟨rfl, K_, F_a_rank, F_a_heap, F_a_size, ?_⟩
      simp only [own_r3, l_hc75, l_hc99, if_true, if_false, Bool.false_eq_true]; exact A_q
  · intro hc75
    refine own_iinc (pc' := 81) (v := (2 : Int32)) (Ls' := #[.val (.ref a), .val (.int x0_), .val (.int x3_), .val (.int (0 : Int32)), .val (.int (2 : Int32))]) C d4_78 rfl (by decide) rfl rfl ?_
    refine own_aloadN (pc' := 82) C d4_81 rfl rfl rfl ?_
    refine own_getfield (pc' := 85) C d4_82 (hw _ (List.mem_of_getElem? (i := 10) rfl)) F_a_rank rfl ?_
    refine own_aloadN (pc' := 86) C d4_85 rfl rfl rfl ?_
    refine own_getfield (pc' := 89) C d4_86 (hw _ (List.mem_of_getElem? (i := 12) rfl)) F_a_heap rfl ?_
    refine own_iload (pc' := 91) C d4_89 rfl rfl ?_
    refine own_iaload (pc' := 92) (v := x2_) (i := 2) C d4_91 A_q (by decide) rfl rfl rfl ?_
    refine own_iaload (pc' := 93) (v := (own_rk [r0_, r1_, r2_, r3_, r4_] x2_)) (i := x2_.toNatClampNeg) C d4_92 A_r hi_x2_.1 rfl (own_get hi_x2_) rfl ?_
    refine own_aloadN (pc' := 94) C d4_93 rfl rfl rfl ?_
    refine own_getfield (pc' := 97) C d4_94 (hw _ (List.mem_of_getElem? (i := 10) rfl)) F_a_rank rfl ?_
    refine own_iloadN (pc' := 98) C d4_97 rfl rfl ?_
    refine own_iaload (pc' := 99) (v := (own_rk [r0_, r1_, r2_, r3_, r4_] x3_)) (i := x3_.toNatClampNeg) C d4_98 A_r hi_x3_.1 rfl (own_get hi_x3_) rfl ?_
    refine own_icmp_le (pt := 105) (pf := 102) C d4_99 (by decide) (by decide) rfl ?_ ?_
    · intro hc99
      refine own_aloadN (pc' := 106) C d4_105 rfl rfl rfl ?_
      refine own_getfield (pc' := 109) C d4_106 (hw _ (List.mem_of_getElem? (i := 12) rfl)) F_a_heap rfl ?_
      refine own_iloadN (pc' := 110) C d4_109 rfl rfl ?_
      refine own_aloadN (pc' := 111) C d4_110 rfl rfl rfl ?_
      refine own_getfield (pc' := 114) C d4_111 (hw _ (List.mem_of_getElem? (i := 12) rfl)) F_a_heap rfl ?_
      refine own_iload (pc' := 116) C d4_114 rfl rfl ?_
      refine own_iaload (pc' := 117) (v := x2_) (i := 2) C d4_116 A_q (by decide) rfl rfl rfl ?_
      refine own_iastore (pc' := 118) (i := 0) (ys := [x2_, x1_, x2_, x3_, x4_]) C d4_117 A_q (by decide) rfl (Nat.le_of_ble_eq_true rfl) rfl g_q rfl ?_
      intro h2 W2 A2_
      replace E_a := E_a.wr W2
      replace F_a_rank := F_a_rank.other W2 (Or.inl ne_a_q)
      replace F_a_heap := F_a_heap.other W2 (Or.inl ne_a_q)
      replace F_a_size := F_a_size.other W2 (Or.inl ne_a_q)
      replace A_r := A_r.other W2 ne_r_q
      replace A_q := A2_
      replace Z_ : n0 ≤ _ := Nat.le_trans Z_ (Nat.le_of_eq W2.size.symm)
      replace K_ := K_.wr W2 (Or.inl (List.mem_of_getElem? (i := 1) rfl))
      refine own_iload (pc' := 120) C d4_118 rfl rfl ?_
      refine own_istoreN (pc' := 121) (y := (2 : Int32)) (Ls' := #[.val (.ref a), .val (.int x0_), .val (.int x3_), .val (.int (2 : Int32)), .val (.int (2 : Int32))]) C d4_120 rfl rfl rfl ?_
      refine own_iconst (pc' := 122) (v := (2 : Int32)) C d4_121 own_ki_2 rfl ?_
      refine own_iloadN (pc' := 123) C d4_122 rfl rfl ?_
      refine own_imul (pc' := 124) (v := (4 : Int32)) C d4_123 (by decide) rfl ?_
      refine own_iconst (pc' := 125) (v := (1 : Int32)) C d4_124 own_ki_1 rfl ?_
      refine own_iadd (pc' := 126) (v := (5 : Int32)) C d4_125 (by decide) rfl ?_
      refine own_istore (pc' := 128) (y := (5 : Int32)) (Ls' := #[.val (.ref a), .val (.int x0_), .val (.int x3_), .val (.int (2 : Int32)), .val (.int (5 : Int32))]) C d4_126 rfl rfl rfl ?_
      refine own_goto (pc' := 29) C d4_128 (by decide) (by decide) ?_
      refine own_iload (pc' := 31) C d4_29 rfl rfl ?_
      refine own_aloadN (pc' := 32) C d4_31 rfl rfl rfl ?_
      refine own_getfield (pc' := 35) C d4_32 (hw _ (List.mem_of_getElem? (i := 19) rfl)) F_a_size rfl ?_
      refine own_icmp_ge (pt := 131) (pf := 38) C d4_35 (by decide) (by decide) rfl (fun _ => ?_) (fun q => absurd q (by decide))
      refine own_aloadN (pc' := 132) C d4_131 rfl rfl rfl ?_
      refine own_getfield (pc' := 135) C d4_132 (hw _ (List.mem_of_getElem? (i := 12) rfl)) F_a_heap rfl ?_
      refine own_iloadN (pc' := 136) C d4_135 rfl rfl ?_
      refine own_iloadN (pc' := 137) C d4_136 rfl rfl ?_
      refine own_iastore (pc' := 138) (i := 2) (ys := [x2_, x1_, x3_, x3_, x4_]) C d4_137 A_q (by decide) rfl (Nat.le_of_ble_eq_true rfl) rfl g_q rfl ?_
      intro h3 W3 A3_
      replace E_a := E_a.wr W3
      replace F_a_rank := F_a_rank.other W3 (Or.inl ne_a_q)
      replace F_a_heap := F_a_heap.other W3 (Or.inl ne_a_q)
      replace F_a_size := F_a_size.other W3 (Or.inl ne_a_q)
      replace A_r := A_r.other W3 ne_r_q
      replace A_q := A3_
      replace Z_ : n0 ≤ _ := Nat.le_trans Z_ (Nat.le_of_eq W3.size.symm)
      replace K_ := K_.wr W3 (Or.inl (List.mem_of_getElem? (i := 1) rfl))
      refine own_iloadN (pc' := 139) C d4_138 rfl rfl ?_
      refine own_iret C d4_139 (by decide) (by decide) ?_
      have l_hc75 : own_lt [r0_, r1_, r2_, r3_, r4_] x2_ x1_ = true := by simp [own_lt, hc75]
      have l_hc99 : own_lt [r0_, r1_, r2_, r3_, r4_] x3_ x2_ = false := by simp [own_lt, hc99]
      refine ⟨rfl, K_, F_a_rank, F_a_heap, F_a_size, ?_⟩
      simp only [own_r3, l_hc75, l_hc99, if_true, if_false, Bool.false_eq_true]; exact A_q
    · intro hc99
      refine own_goto (pc' := 131) C d4_102 (by decide) (by decide) ?_
      refine own_aloadN (pc' := 132) C d4_131 rfl rfl rfl ?_
      refine own_getfield (pc' := 135) C d4_132 (hw _ (List.mem_of_getElem? (i := 12) rfl)) F_a_heap rfl ?_
      refine own_iloadN (pc' := 136) C d4_135 rfl rfl ?_
      refine own_iloadN (pc' := 137) C d4_136 rfl rfl ?_
      refine own_iastore (pc' := 138) (i := 0) (ys := [x3_, x1_, x2_, x3_, x4_]) C d4_137 A_q (by decide) rfl (Nat.le_of_ble_eq_true rfl) rfl g_q rfl ?_
      intro h2 W2 A2_
      replace E_a := E_a.wr W2
      replace F_a_rank := F_a_rank.other W2 (Or.inl ne_a_q)
      replace F_a_heap := F_a_heap.other W2 (Or.inl ne_a_q)
      replace F_a_size := F_a_size.other W2 (Or.inl ne_a_q)
      replace A_r := A_r.other W2 ne_r_q
      replace A_q := A2_
      replace Z_ : n0 ≤ _ := Nat.le_trans Z_ (Nat.le_of_eq W2.size.symm)
      replace K_ := K_.wr W2 (Or.inl (List.mem_of_getElem? (i := 1) rfl))
      refine own_iloadN (pc' := 139) C d4_138 rfl rfl ?_
      refine own_iret C d4_139 (by decide) (by decide) ?_
      have l_hc75 : own_lt [r0_, r1_, r2_, r3_, r4_] x2_ x1_ = true := by simp [own_lt, hc75]
      have l_hc99 : own_lt [r0_, r1_, r2_, r3_, r4_] x3_ x2_ = true := by simp [own_lt, hc99]
      refine ⟨rfl, K_, F_a_rank, F_a_heap, F_a_size, ?_⟩
      simp only [own_r3, l_hc75, l_hc99, if_true, if_false, Bool.false_eq_true]; exact A_q

set_option maxRecDepth 65536 in
set_option maxHeartbeats 40000000 in
theorem own_poll4 (l : Launch) (Z : State) (a0 : Array Value) (hw : ∀ d ∈ tables_1, d.before a0 Z = true) (a : Addr) (r q : Addr) (r0_ r1_ r2_ r3_ r4_ x0_ x1_ x2_ x3_ x4_ : Int32) (h0 : Heap) (n0 : Nat) (Z_ : n0 ≤ h0.size) (E_a : Exa Z h0 a "com/example/precedence/precedence/IntHeap") (F_a_rank : Fld Z h0 a "com/example/precedence/precedence/IntHeap" "rank" "[I" (.ref r)) (F_a_heap : Fld Z h0 a "com/example/precedence/precedence/IntHeap" "heap" "[I" (.ref q)) (F_a_size : Fld Z h0 a "com/example/precedence/precedence/IntHeap" "size" "I" (.int (5 : Int32))) (g_a : n0 ≤ a) (A_r : AI Z h0 r .int [r0_, r1_, r2_, r3_, r4_]) (A_q : AI Z h0 q .int [x0_, x1_, x2_, x3_, x4_]) (g_q : n0 ≤ q) (ne_a_r : a ≠ r) (ne_a_q : a ≠ q) (ne_r_q : r ≠ q) (hi_x0_ : own_in x0_) (hi_x1_ : own_in x1_) (hi_x2_ : own_in x2_) (hi_x3_ : own_in x3_) (hi_x4_ : own_in x4_) :
    Met l (⟨"com/example/precedence/precedence/IntHeap", "poll", "()I"⟩ : MethodName) prog_28_method_4_code 5 (some .int) [] ({ frames := 0, cells := 0, slots := 0, locals := 0 } : Room) Z n0 #[(.ref a)] h0 (fun v h => v = some (.int x0_) ∧ Keep h0 h [a, q] ∧ Fld Z h a "com/example/precedence/precedence/IntHeap" "rank" "[I" (.ref r) ∧ Fld Z h a "com/example/precedence/precedence/IntHeap" "heap" "[I" (.ref q) ∧ Fld Z h a "com/example/precedence/precedence/IntHeap" "size" "I" (.int (4 : Int32)) ∧ AI Z h q .int [(own_r4 (own_lt [r0_, r1_, r2_, r3_, r4_]) x0_ x1_ x2_ x3_ x4_).1, (own_r4 (own_lt [r0_, r1_, r2_, r3_, r4_]) x0_ x1_ x2_ x3_ x4_).2.1, (own_r4 (own_lt [r0_, r1_, r2_, r3_, r4_]) x0_ x1_ x2_ x3_ x4_).2.2.1, (own_r4 (own_lt [r0_, r1_, r2_, r3_, r4_]) x0_ x1_ x2_ x3_ x4_).2.2.2, x4_]) := by
  refine own_met pn4 (fun m => ef4 m a) ?_
  intro p e s m below meth c C
  have K_ : Keep h0 h0 [a, q] := Keep.refl _ _
  refine own_aloadN (pc' := 1) C d4_0 rfl rfl rfl ?_
  refine own_getfield (pc' := 4) C d4_1 (hw _ (List.mem_of_getElem? (i := 12) rfl)) F_a_heap rfl ?_
  refine own_iconst (pc' := 5) (v := (0 : Int32)) C d4_4 own_ki_0 rfl ?_
  refine own_iaload (pc' := 6) (v := x0_) (i := 0) C d4_5 A_q (by decide) rfl rfl rfl ?_
  refine own_istoreN (pc' := 7) (y := x0_) (Ls' := #[.val (.ref a), .val (.int x0_), .unset, .unset, .unset]) C d4_6 rfl rfl rfl ?_
  refine own_aloadN (pc' := 8) C d4_7 rfl rfl rfl ?_
  refine own_getfield (pc' := 11) C d4_8 (hw _ (List.mem_of_getElem? (i := 12) rfl)) F_a_heap rfl ?_
  refine own_aloadN (pc' := 12) C d4_11 rfl rfl rfl ?_
  refine own_dup (pc' := 13) C d4_12 rfl rfl ?_
  refine own_getfield (pc' := 16) C d4_13 (hw _ (List.mem_of_getElem? (i := 19) rfl)) F_a_size rfl ?_
  refine own_iconst (pc' := 17) (v := (1 : Int32)) C d4_16 own_ki_1 rfl ?_
  refine own_isub (pc' := 18) (v := (4 : Int32)) C d4_17 (by decide) rfl ?_
  refine own_dupX1 (pc' := 19) C d4_18 rfl rfl rfl ?_
  refine own_putfield (pc' := 22) C d4_19 (hw _ (List.mem_of_getElem? (i := 19) rfl)) F_a_size E_a (Or.inl (hw _ (List.mem_of_getElem? (i := 20) rfl))) (hw _ (List.mem_of_getElem? (i := 2) rfl)) (ty := .int) (by decide) rfl rfl g_a rfl ?_
  intro h1 W1 F1_
  replace E_a := E_a.wr W1
  replace F_a_rank := F_a_rank.other W1 (Or.inr (slot_ne (Or.inr (hw _ (List.mem_of_getElem? (i := 11) rfl))) (Or.inl (hw _ (List.mem_of_getElem? (i := 20) rfl))) (by decide) (t := (.array .int)) (t' := .int) (by decide) (by decide)))
  replace F_a_heap := F_a_heap.other W1 (Or.inr (slot_ne (Or.inr (hw _ (List.mem_of_getElem? (i := 13) rfl))) (Or.inl (hw _ (List.mem_of_getElem? (i := 20) rfl))) (by decide) (t := (.array .int)) (t' := .int) (by decide) (by decide)))
  replace A_r := A_r.other W1 (Ne.symm ne_a_r)
  replace A_q := A_q.other W1 (Ne.symm ne_a_q)
  replace F_a_size := F1_
  replace Z_ : n0 ≤ _ := Nat.le_trans Z_ (Nat.le_of_eq W1.size.symm)
  replace K_ := K_.wr W1 (Or.inl (List.mem_of_getElem? (i := 0) rfl))
  refine own_iaload (pc' := 23) (v := x4_) (i := 4) C d4_22 A_q (by decide) rfl rfl rfl ?_
  refine own_istoreN (pc' := 24) (y := x4_) (Ls' := #[.val (.ref a), .val (.int x0_), .val (.int x4_), .unset, .unset]) C d4_23 rfl rfl rfl ?_
  refine own_iconst (pc' := 25) (v := (0 : Int32)) C d4_24 own_ki_0 rfl ?_
  refine own_istoreN (pc' := 26) (y := (0 : Int32)) (Ls' := #[.val (.ref a), .val (.int x0_), .val (.int x4_), .val (.int (0 : Int32)), .unset]) C d4_25 rfl rfl rfl ?_
  refine own_iconst (pc' := 27) (v := (1 : Int32)) C d4_26 own_ki_1 rfl ?_
  refine own_istore (pc' := 29) (y := (1 : Int32)) (Ls' := #[.val (.ref a), .val (.int x0_), .val (.int x4_), .val (.int (0 : Int32)), .val (.int (1 : Int32))]) C d4_27 rfl rfl rfl ?_
  refine own_iload (pc' := 31) C d4_29 rfl rfl ?_
  refine own_aloadN (pc' := 32) C d4_31 rfl rfl rfl ?_
  refine own_getfield (pc' := 35) C d4_32 (hw _ (List.mem_of_getElem? (i := 19) rfl)) F_a_size rfl ?_
  refine own_icmp_ge (pt := 131) (pf := 38) C d4_35 (by decide) (by decide) rfl (fun q => absurd (by decide) q) (fun _ => ?_)
  refine own_iload (pc' := 40) C d4_38 rfl rfl ?_
  refine own_iconst (pc' := 41) (v := (1 : Int32)) C d4_40 own_ki_1 rfl ?_
  refine own_iadd (pc' := 42) (v := (2 : Int32)) C d4_41 (by decide) rfl ?_
  refine own_aloadN (pc' := 43) C d4_42 rfl rfl rfl ?_
  refine own_getfield (pc' := 46) C d4_43 (hw _ (List.mem_of_getElem? (i := 19) rfl)) F_a_size rfl ?_
  refine own_icmp_ge (pt := 81) (pf := 49) C d4_46 (by decide) (by decide) rfl (fun q => absurd (by decide) q) (fun _ => ?_)
  refine own_aloadN (pc' := 50) C d4_49 rfl rfl rfl ?_
  refine own_getfield (pc' := 53) C d4_50 (hw _ (List.mem_of_getElem? (i := 10) rfl)) F_a_rank rfl ?_
  refine own_aloadN (pc' := 54) C d4_53 rfl rfl rfl ?_
  refine own_getfield (pc' := 57) C d4_54 (hw _ (List.mem_of_getElem? (i := 12) rfl)) F_a_heap rfl ?_
  refine own_iload (pc' := 59) C d4_57 rfl rfl ?_
  refine own_iconst (pc' := 60) (v := (1 : Int32)) C d4_59 own_ki_1 rfl ?_
  refine own_iadd (pc' := 61) (v := (2 : Int32)) C d4_60 (by decide) rfl ?_
  refine own_iaload (pc' := 62) (v := x2_) (i := 2) C d4_61 A_q (by decide) rfl rfl rfl ?_
  refine own_iaload (pc' := 63) (v := (own_rk [r0_, r1_, r2_, r3_, r4_] x2_)) (i := x2_.toNatClampNeg) C d4_62 A_r hi_x2_.1 rfl (own_get hi_x2_) rfl ?_
  refine own_aloadN (pc' := 64) C d4_63 rfl rfl rfl ?_
  refine own_getfield (pc' := 67) C d4_64 (hw _ (List.mem_of_getElem? (i := 10) rfl)) F_a_rank rfl ?_
  refine own_aloadN (pc' := 68) C d4_67 rfl rfl rfl ?_
  refine own_getfield (pc' := 71) C d4_68 (hw _ (List.mem_of_getElem? (i := 12) rfl)) F_a_heap rfl ?_
  refine own_iload (pc' := 73) C d4_71 rfl rfl ?_
  refine own_iaload (pc' := 74) (v := x1_) (i := 1) C d4_73 A_q (by decide) rfl rfl rfl ?_
  refine own_iaload (pc' := 75) (v := (own_rk [r0_, r1_, r2_, r3_, r4_] x1_)) (i := x1_.toNatClampNeg) C d4_74 A_r hi_x1_.1 rfl (own_get hi_x1_) rfl ?_
  refine own_icmp_ge (pt := 81) (pf := 78) C d4_75 (by decide) (by decide) rfl ?_ ?_
  · intro hc75
    refine own_aloadN (pc' := 82) C d4_81 rfl rfl rfl ?_
    refine own_getfield (pc' := 85) C d4_82 (hw _ (List.mem_of_getElem? (i := 10) rfl)) F_a_rank rfl ?_
    refine own_aloadN (pc' := 86) C d4_85 rfl rfl rfl ?_
    refine own_getfield (pc' := 89) C d4_86 (hw _ (List.mem_of_getElem? (i := 12) rfl)) F_a_heap rfl ?_
    refine own_iload (pc' := 91) C d4_89 rfl rfl ?_
    refine own_iaload (pc' := 92) (v := x1_) (i := 1) C d4_91 A_q (by decide) rfl rfl rfl ?_
    refine own_iaload (pc' := 93) (v := (own_rk [r0_, r1_, r2_, r3_, r4_] x1_)) (i := x1_.toNatClampNeg) C d4_92 A_r hi_x1_.1 rfl (own_get hi_x1_) rfl ?_
    refine own_aloadN (pc' := 94) C d4_93 rfl rfl rfl ?_
    refine own_getfield (pc' := 97) C d4_94 (hw _ (List.mem_of_getElem? (i := 10) rfl)) F_a_rank rfl ?_
    refine own_iloadN (pc' := 98) C d4_97 rfl rfl ?_
    refine own_iaload (pc' := 99) (v := (own_rk [r0_, r1_, r2_, r3_, r4_] x4_)) (i := x4_.toNatClampNeg) C d4_98 A_r hi_x4_.1 rfl (own_get hi_x4_) rfl ?_
    refine own_icmp_le (pt := 105) (pf := 102) C d4_99 (by decide) (by decide) rfl ?_ ?_
    · intro hc99
      refine own_aloadN (pc' := 106) C d4_105 rfl rfl rfl ?_
      refine own_getfield (pc' := 109) C d4_106 (hw _ (List.mem_of_getElem? (i := 12) rfl)) F_a_heap rfl ?_
      refine own_iloadN (pc' := 110) C d4_109 rfl rfl ?_
      refine own_aloadN (pc' := 111) C d4_110 rfl rfl rfl ?_
      refine own_getfield (pc' := 114) C d4_111 (hw _ (List.mem_of_getElem? (i := 12) rfl)) F_a_heap rfl ?_
      refine own_iload (pc' := 116) C d4_114 rfl rfl ?_
      refine own_iaload (pc' := 117) (v := x1_) (i := 1) C d4_116 A_q (by decide) rfl rfl rfl ?_
      refine own_iastore (pc' := 118) (i := 0) (ys := [x1_, x1_, x2_, x3_, x4_]) C d4_117 A_q (by decide) rfl (Nat.le_of_ble_eq_true rfl) rfl g_q rfl ?_
      intro h2 W2 A2_
      replace E_a := E_a.wr W2
      replace F_a_rank := F_a_rank.other W2 (Or.inl ne_a_q)
      replace F_a_heap := F_a_heap.other W2 (Or.inl ne_a_q)
      replace F_a_size := F_a_size.other W2 (Or.inl ne_a_q)
      replace A_r := A_r.other W2 ne_r_q
      replace A_q := A2_
      replace Z_ : n0 ≤ _ := Nat.le_trans Z_ (Nat.le_of_eq W2.size.symm)
      replace K_ := K_.wr W2 (Or.inl (List.mem_of_getElem? (i := 1) rfl))
      refine own_iload (pc' := 120) C d4_118 rfl rfl ?_
      refine own_istoreN (pc' := 121) (y := (1 : Int32)) (Ls' := #[.val (.ref a), .val (.int x0_), .val (.int x4_), .val (.int (1 : Int32)), .val (.int (1 : Int32))]) C d4_120 rfl rfl rfl ?_
      refine own_iconst (pc' := 122) (v := (2 : Int32)) C d4_121 own_ki_2 rfl ?_
      refine own_iloadN (pc' := 123) C d4_122 rfl rfl ?_
      refine own_imul (pc' := 124) (v := (2 : Int32)) C d4_123 (by decide) rfl ?_
      refine own_iconst (pc' := 125) (v := (1 : Int32)) C d4_124 own_ki_1 rfl ?_
      refine own_iadd (pc' := 126) (v := (3 : Int32)) C d4_125 (by decide) rfl ?_
      refine own_istore (pc' := 128) (y := (3 : Int32)) (Ls' := #[.val (.ref a), .val (.int x0_), .val (.int x4_), .val (.int (1 : Int32)), .val (.int (3 : Int32))]) C d4_126 rfl rfl rfl ?_
      refine own_goto (pc' := 29) C d4_128 (by decide) (by decide) ?_
      refine own_iload (pc' := 31) C d4_29 rfl rfl ?_
      refine own_aloadN (pc' := 32) C d4_31 rfl rfl rfl ?_
      refine own_getfield (pc' := 35) C d4_32 (hw _ (List.mem_of_getElem? (i := 19) rfl)) F_a_size rfl ?_
      refine own_icmp_ge (pt := 131) (pf := 38) C d4_35 (by decide) (by decide) rfl (fun q => absurd (by decide) q) (fun _ => ?_)
      refine own_iload (pc' := 40) C d4_38 rfl rfl ?_
      refine own_iconst (pc' := 41) (v := (1 : Int32)) C d4_40 own_ki_1 rfl ?_
      refine own_iadd (pc' := 42) (v := (4 : Int32)) C d4_41 (by decide) rfl ?_
      refine own_aloadN (pc' := 43) C d4_42 rfl rfl rfl ?_
      refine own_getfield (pc' := 46) C d4_43 (hw _ (List.mem_of_getElem? (i := 19) rfl)) F_a_size rfl ?_
      refine own_icmp_ge (pt := 81) (pf := 49) C d4_46 (by decide) (by decide) rfl (fun _ => ?_) (fun q => absurd q (by decide))
      refine own_aloadN (pc' := 82) C d4_81 rfl rfl rfl ?_
      refine own_getfield (pc' := 85) C d4_82 (hw _ (List.mem_of_getElem? (i := 10) rfl)) F_a_rank rfl ?_
      refine own_aloadN (pc' := 86) C d4_85 rfl rfl rfl ?_
      refine own_getfield (pc' := 89) C d4_86 (hw _ (List.mem_of_getElem? (i := 12) rfl)) F_a_heap rfl ?_
      refine own_iload (pc' := 91) C d4_89 rfl rfl ?_
      refine own_iaload (pc' := 92) (v := x3_) (i := 3) C d4_91 A_q (by decide) rfl rfl rfl ?_
      refine own_iaload (pc' := 93) (v := (own_rk [r0_, r1_, r2_, r3_, r4_] x3_)) (i := x3_.toNatClampNeg) C d4_92 A_r hi_x3_.1 rfl (own_get hi_x3_) rfl ?_
      refine own_aloadN (pc' := 94) C d4_93 rfl rfl rfl ?_
      refine own_getfield (pc' := 97) C d4_94 (hw _ (List.mem_of_getElem? (i := 10) rfl)) F_a_rank rfl ?_
      refine own_iloadN (pc' := 98) C d4_97 rfl rfl ?_
      refine own_iaload (pc' := 99) (v := (own_rk [r0_, r1_, r2_, r3_, r4_] x4_)) (i := x4_.toNatClampNeg) C d4_98 A_r hi_x4_.1 rfl (own_get hi_x4_) rfl ?_
      refine own_icmp_le (pt := 105) (pf := 102) C d4_99 (by decide) (by decide) rfl ?_ ?_
      · intro hc99_2
        refine own_aloadN (pc' := 106) C d4_105 rfl rfl rfl ?_
        refine own_getfield (pc' := 109) C d4_106 (hw _ (List.mem_of_getElem? (i := 12) rfl)) F_a_heap rfl ?_
        refine own_iloadN (pc' := 110) C d4_109 rfl rfl ?_
        refine own_aloadN (pc' := 111) C d4_110 rfl rfl rfl ?_
        refine own_getfield (pc' := 114) C d4_111 (hw _ (List.mem_of_getElem? (i := 12) rfl)) F_a_heap rfl ?_
        refine own_iload (pc' := 116) C d4_114 rfl rfl ?_
        refine own_iaload (pc' := 117) (v := x3_) (i := 3) C d4_116 A_q (by decide) rfl rfl rfl ?_
        refine own_iastore (pc' := 118) (i := 1) (ys := [x1_, x3_, x2_, x3_, x4_]) C d4_117 A_q (by decide) rfl (Nat.le_of_ble_eq_true rfl) rfl g_q rfl ?_
        intro h3 W3 A3_
        replace E_a := E_a.wr W3
        replace F_a_rank := F_a_rank.other W3 (Or.inl ne_a_q)
        replace F_a_heap := F_a_heap.other W3 (Or.inl ne_a_q)
        replace F_a_size := F_a_size.other W3 (Or.inl ne_a_q)
        replace A_r := A_r.other W3 ne_r_q
        replace A_q := A3_
        replace Z_ : n0 ≤ _ := Nat.le_trans Z_ (Nat.le_of_eq W3.size.symm)
        replace K_ := K_.wr W3 (Or.inl (List.mem_of_getElem? (i := 1) rfl))
        refine own_iload (pc' := 120) C d4_118 rfl rfl ?_
        refine own_istoreN (pc' := 121) (y := (3 : Int32)) (Ls' := #[.val (.ref a), .val (.int x0_), .val (.int x4_), .val (.int (3 : Int32)), .val (.int (3 : Int32))]) C d4_120 rfl rfl rfl ?_
        refine own_iconst (pc' := 122) (v := (2 : Int32)) C d4_121 own_ki_2 rfl ?_
        refine own_iloadN (pc' := 123) C d4_122 rfl rfl ?_
        refine own_imul (pc' := 124) (v := (6 : Int32)) C d4_123 (by decide) rfl ?_
        refine own_iconst (pc' := 125) (v := (1 : Int32)) C d4_124 own_ki_1 rfl ?_
        refine own_iadd (pc' := 126) (v := (7 : Int32)) C d4_125 (by decide) rfl ?_
        refine own_istore (pc' := 128) (y := (7 : Int32)) (Ls' := #[.val (.ref a), .val (.int x0_), .val (.int x4_), .val (.int (3 : Int32)), .val (.int (7 : Int32))]) C d4_126 rfl rfl rfl ?_
        refine own_goto (pc' := 29) C d4_128 (by decide) (by decide) ?_
        refine own_iload (pc' := 31) C d4_29 rfl rfl ?_
        refine own_aloadN (pc' := 32) C d4_31 rfl rfl rfl ?_
        refine own_getfield (pc' := 35) C d4_32 (hw _ (List.mem_of_getElem? (i := 19) rfl)) F_a_size rfl ?_
        refine own_icmp_ge (pt := 131) (pf := 38) C d4_35 (by decide) (by decide) rfl (fun _ => ?_) (fun q => absurd q (by decide))
        refine own_aloadN (pc' := 132) C d4_131 rfl rfl rfl ?_
        refine own_getfield (pc' := 135) C d4_132 (hw _ (List.mem_of_getElem? (i := 12) rfl)) F_a_heap rfl ?_
        refine own_iloadN (pc' := 136) C d4_135 rfl rfl ?_
        refine own_iloadN (pc' := 137) C d4_136 rfl rfl ?_
        refine own_iastore (pc' := 138) (i := 3) (ys := [x1_, x3_, x2_, x4_, x4_]) C d4_137 A_q (by decide) rfl (Nat.le_of_ble_eq_true rfl) rfl g_q rfl ?_
        intro h4 W4 A4_
        replace E_a := E_a.wr W4
        replace F_a_rank := F_a_rank.other W4 (Or.inl ne_a_q)
        replace F_a_heap := F_a_heap.other W4 (Or.inl ne_a_q)
        replace F_a_size := F_a_size.other W4 (Or.inl ne_a_q)
        replace A_r := A_r.other W4 ne_r_q
        replace A_q := A4_
        replace Z_ : n0 ≤ _ := Nat.le_trans Z_ (Nat.le_of_eq W4.size.symm)
        replace K_ := K_.wr W4 (Or.inl (List.mem_of_getElem? (i := 1) rfl))
        refine own_iloadN (pc' := 139) C d4_138 rfl rfl ?_
        refine own_iret C d4_139 (by decide) (by decide) ?_
        have l_hc75 : own_lt [r0_, r1_, r2_, r3_, r4_] x2_ x1_ = false := by simp [own_lt, hc75]
        have l_hc99 : own_lt [r0_, r1_, r2_, r3_, r4_] x4_ x1_ = false := by simp [own_lt, hc99]
        have l_hc99_2 : own_lt [r0_, r1_, r2_, r3_, r4_] x4_ x3_ = false := by simp [own_lt, hc99_2]
        refine ⟨rfl, K_, F_a_rank, F_a_heap, F_a_size, ?_⟩
        simp only [own_r4, l_hc75, l_hc99, l_hc99_2, if_true, if_false, Bool.false_eq_true]; exact A_q
      · intro hc99_2
        refine own_goto (pc' := 131) C d4_102 (by decide) (by decide) ?_
        refine own_aloadN (pc' := 132) C d4_131 rfl rfl rfl ?_
        refine own_getfield (pc' := 135) C d4_132 (hw _ (List.mem_of_getElem? (i := 12) rfl)) F_a_heap rfl ?_
        refine own_iloadN (pc' := 136) C d4_135 rfl rfl ?_
        refine own_iloadN (pc' := 137) C d4_136 rfl rfl ?_
        refine own_iastore (pc' := 138) (i := 1) (ys := [x1_, x4_, x2_, x3_, x4_]) C d4_137 A_q (by decide) rfl (Nat.le_of_ble_eq_true rfl) rfl g_q rfl ?_
        intro h3 W3 A3_
        replace E_a := E_a.wr W3
        replace F_a_rank := F_a_rank.other W3 (Or.inl ne_a_q)
        replace F_a_heap := F_a_heap.other W3 (Or.inl ne_a_q)
        replace F_a_size := F_a_size.other W3 (Or.inl ne_a_q)
        replace A_r := A_r.other W3 ne_r_q
        replace A_q := A3_
        replace Z_ : n0 ≤ _ := Nat.le_trans Z_ (Nat.le_of_eq W3.size.symm)
        replace K_ := K_.wr W3 (Or.inl (List.mem_of_getElem? (i := 1) rfl))
        refine own_iloadN (pc' := 139) C d4_138 rfl rfl ?_
        refine own_iret C d4_139 (by decide) (by decide) ?_
        have l_hc75 : own_lt [r0_, r1_, r2_, r3_, r4_] x2_ x1_ = false := by simp [own_lt, hc75]
        have l_hc99 : own_lt [r0_, r1_, r2_, r3_, r4_] x4_ x1_ = false := by simp [own_lt, hc99]
        have l_hc99_2 : own_lt [r0_, r1_, r2_, r3_, r4_] x4_ x3_ = true := by simp [own_lt, hc99_2]
        refine ⟨rfl, K_, F_a_rank, F_a_heap, F_a_size, ?_⟩
        simp only [own_r4, l_hc75, l_hc99, l_hc99_2, if_true, if_false, Bool.false_eq_true]; exact A_q
    · intro hc99
      refine own_goto (pc' := 131) C d4_102 (by decide) (by decide) ?_
      refine own_aloadN (pc' := 132) C d4_131 rfl rfl rfl ?_
      refine own_getfield (pc' := 135) C d4_132 (hw _ (List.mem_of_getElem? (i := 12) rfl)) F_a_heap rfl ?_
      refine own_iloadN (pc' := 136) C d4_135 rfl rfl ?_
      refine own_iloadN (pc' := 137) C d4_136 rfl rfl ?_
      refine own_iastore (pc' := 138) (i := 0) (ys := [x4_, x1_, x2_, x3_, x4_]) C d4_137 A_q (by decide) rfl (Nat.le_of_ble_eq_true rfl) rfl g_q rfl ?_
      intro h2 W2 A2_
      replace E_a := E_a.wr W2
      replace F_a_rank := F_a_rank.other W2 (Or.inl ne_a_q)
      replace F_a_heap := F_a_heap.other W2 (Or.inl ne_a_q)
      replace F_a_size := F_a_size.other W2 (Or.inl ne_a_q)
      replace A_r := A_r.other W2 ne_r_q
      replace A_q := A2_
      replace Z_ : n0 ≤ _ := Nat.le_trans Z_ (Nat.le_of_eq W2.size.symm)
      replace K_ := K_.wr W2 (Or.inl (List.mem_of_getElem? (i := 1) rfl))
      refine own_iloadN (pc' := 139) C d4_138 rfl rfl ?_
      refine own_iret C d4_139 (by decide) (by decide) ?_
      have l_hc75 : own_lt [r0_, r1_, r2_, r3_, r4_] x2_ x1_ = false := by simp [own_lt, hc75]
      have l_hc99 : own_lt [r0_, r1_, r2_, r3_, r4_] x4_ x1_ = true := by simp [own_lt, hc99]
      refine ⟨rfl, K_, F_a_rank, F_a_heap, F_a_size, ?_⟩
      simp only [own_r4, l_hc75, l_hc99, if_true, if_false, Bool.false_eq_true]; exact A_q
  · intro hc75
    refine own_iinc (pc' := 81) (v := (2 : Int32)) (Ls' := #[.val (.ref a), .val (.int x0_), .val (.int x4_), .val (.int (0 : Int32)), .val (.int (2 : Int32))]) C d4_78 rfl (by decide) rfl rfl ?_
    refine own_aloadN (pc' := 82) C d4_81 rfl rfl rfl ?_
    refine own_getfield (pc' := 85) C d4_82 (hw _ (List.mem_of_getElem? (i := 10) rfl)) F_a_rank rfl ?_
    refine own_aloadN (pc' := 86) C d4_85 rfl rfl rfl ?_
    refine own_getfield (pc' := 89) C d4_86 (hw _ (List.mem_of_getElem? (i := 12) rfl)) F_a_heap rfl ?_
    refine own_iload (pc' := 91) C d4_89 rfl rfl ?_
    refine own_iaload (pc' := 92) (v := x2_) (i := 2) C d4_91 A_q (by decide) rfl rfl rfl ?_
    refine own_iaload (pc' := 93) (v := (own_rk [r0_, r1_, r2_, r3_, r4_] x2_)) (i := x2_.toNatClampNeg) C d4_92 A_r hi_x2_.1 rfl (own_get hi_x2_) rfl ?_
    refine own_aloadN (pc' := 94) C d4_93 rfl rfl rfl ?_
    refine own_getfield (pc' := 97) C d4_94 (hw _ (List.mem_of_getElem? (i := 10) rfl)) F_a_rank rfl ?_
    refine own_iloadN (pc' := 98) C d4_97 rfl rfl ?_
    refine own_iaload (pc' := 99) (v := (own_rk [r0_, r1_, r2_, r3_, r4_] x4_)) (i := x4_.toNatClampNeg) C d4_98 A_r hi_x4_.1 rfl (own_get hi_x4_) rfl ?_
    refine own_icmp_le (pt := 105) (pf := 102) C d4_99 (by decide) (by decide) rfl ?_ ?_
    · intro hc99
      refine own_aloadN (pc' := 106) C d4_105 rfl rfl rfl ?_
      refine own_getfield (pc' := 109) C d4_106 (hw _ (List.mem_of_getElem? (i := 12) rfl)) F_a_heap rfl ?_
      refine own_iloadN (pc' := 110) C d4_109 rfl rfl ?_
      refine own_aloadN (pc' := 111) C d4_110 rfl rfl rfl ?_
      refine own_getfield (pc' := 114) C d4_111 (hw _ (List.mem_of_getElem? (i := 12) rfl)) F_a_heap rfl ?_
      refine own_iload (pc' := 116) C d4_114 rfl rfl ?_
      refine own_iaload (pc' := 117) (v := x2_) (i := 2) C d4_116 A_q (by decide) rfl rfl rfl ?_
      refine own_iastore (pc' := 118) (i := 0) (ys := [x2_, x1_, x2_, x3_, x4_]) C d4_117 A_q (by decide) rfl (Nat.le_of_ble_eq_true rfl) rfl g_q rfl ?_
      intro h2 W2 A2_
      replace E_a := E_a.wr W2
      replace F_a_rank := F_a_rank.other W2 (Or.inl ne_a_q)
      replace F_a_heap := F_a_heap.other W2 (Or.inl ne_a_q)
      replace F_a_size := F_a_size.other W2 (Or.inl ne_a_q)
      replace A_r := A_r.other W2 ne_r_q
      replace A_q := A2_
      replace Z_ : n0 ≤ _ := Nat.le_trans Z_ (Nat.le_of_eq W2.size.symm)
      replace K_ := K_.wr W2 (Or.inl (List.mem_of_getElem? (i := 1) rfl))
      refine own_iload (pc' := 120) C d4_118 rfl rfl ?_
      refine own_istoreN (pc' := 121) (y := (2 : Int32)) (Ls' := #[.val (.ref a), .val (.int x0_), .val (.int x4_), .val (.int (2 : Int32)), .val (.int (2 : Int32))]) C d4_120 rfl rfl rfl ?_
      refine own_iconst (pc' := 122) (v := (2 : Int32)) C d4_121 own_ki_2 rfl ?_
      refine own_iloadN (pc' := 123) C d4_122 rfl rfl ?_
      refine own_imul (pc' := 124) (v := (4 : Int32)) C d4_123 (by decide) rfl ?_
      refine own_iconst (pc' := 125) (v := (1 : Int32)) C d4_124 own_ki_1 rfl ?_
      refine own_iadd (pc' := 126) (v := (5 : Int32)) C d4_125 (by decide) rfl ?_
      refine own_istore (pc' := 128) (y := (5 : Int32)) (Ls' := #[.val (.ref a), .val (.int x0_), .val (.int x4_), .val (.int (2 : Int32)), .val (.int (5 : Int32))]) C d4_126 rfl rfl rfl ?_
      refine own_goto (pc' := 29) C d4_128 (by decide) (by decide) ?_
      refine own_iload (pc' := 31) C d4_29 rfl rfl ?_
      refine own_aloadN (pc' := 32) C d4_31 rfl rfl rfl ?_
      refine own_getfield (pc' := 35) C d4_32 (hw _ (List.mem_of_getElem? (i := 19) rfl)) F_a_size rfl ?_
      refine own_icmp_ge (pt := 131) (pf := 38) C d4_35 (by decide) (by decide) rfl (fun _ => ?_) (fun q => absurd q (by decide))
      refine own_aloadN (pc' := 132) C d4_131 rfl rfl rfl ?_
      refine own_getfield (pc' := 135) C d4_132 (hw _ (List.mem_of_getElem? (i := 12) rfl)) F_a_heap rfl ?_
      refine own_iloadN (pc' := 136) C d4_135 rfl rfl ?_
      refine own_iloadN (pc' := 137) C d4_136 rfl rfl ?_
      refine own_iastore (pc' := 138) (i := 2) (ys := [x2_, x1_, x4_, x3_, x4_]) C d4_137 A_q (by decide) rfl (Nat.le_of_ble_eq_true rfl) rfl g_q rfl ?_
      intro h3 W3 A3_
      replace E_a := E_a.wr W3
      replace F_a_rank := F_a_rank.other W3 (Or.inl ne_a_q)
      replace F_a_heap := F_a_heap.other W3 (Or.inl ne_a_q)
      replace F_a_size := F_a_size.other W3 (Or.inl ne_a_q)
      replace A_r := A_r.other W3 ne_r_q
      replace A_q := A3_
      replace Z_ : n0 ≤ _ := Nat.le_trans Z_ (Nat.le_of_eq W3.size.symm)
      replace K_ := K_.wr W3 (Or.inl (List.mem_of_getElem? (i := 1) rfl))
      refine own_iloadN (pc' := 139) C d4_138 rfl rfl ?_
      refine own_iret C d4_139 (by decide) (by decide) ?_
      have l_hc75 : own_lt [r0_, r1_, r2_, r3_, r4_] x2_ x1_ = true := by simp [own_lt, hc75]
      have l_hc99 : own_lt [r0_, r1_, r2_, r3_, r4_] x4_ x2_ = false := by simp [own_lt, hc99]
      refine ⟨rfl, K_, F_a_rank, F_a_heap, F_a_size, ?_⟩
      simp only [own_r4, l_hc75, l_hc99, if_true, if_false, Bool.false_eq_true]; exact A_q
    · intro hc99
      refine own_goto (pc' := 131) C d4_102 (by decide) (by decide) ?_
      refine own_aloadN (pc' := 132) C d4_131 rfl rfl rfl ?_
      refine own_getfield (pc' := 135) C d4_132 (hw _ (List.mem_of_getElem? (i := 12) rfl)) F_a_heap rfl ?_
      refine own_iloadN (pc' := 136) C d4_135 rfl rfl ?_
      refine own_iloadN (pc' := 137) C d4_136 rfl rfl ?_
      refine own_iastore (pc' := 138) (i := 0) (ys := [x4_, x1_, x2_, x3_, x4_]) C d4_137 A_q (by decide) rfl (Nat.le_of_ble_eq_true rfl) rfl g_q rfl ?_
      intro h2 W2 A2_
      replace E_a := E_a.wr W2
      replace F_a_rank := F_a_rank.other W2 (Or.inl ne_a_q)
      replace F_a_heap := F_a_heap.other W2 (Or.inl ne_a_q)
      replace F_a_size := F_a_size.other W2 (Or.inl ne_a_q)
      replace A_r := A_r.other W2 ne_r_q
      replace A_q := A2_
      replace Z_ : n0 ≤ _ := Nat.le_trans Z_ (Nat.le_of_eq W2.size.symm)
      replace K_ := K_.wr W2 (Or.inl (List.mem_of_getElem? (i := 1) rfl))
      refine own_iloadN (pc' := 139) C d4_138 rfl rfl ?_
      refine own_iret C d4_139 (by decide) (by decide) ?_
      have l_hc75 : own_lt [r0_, r1_, r2_, r3_, r4_] x2_ x1_ = true := by simp [own_lt, hc75]
      have l_hc99 : own_lt [r0_, r1_, r2_, r3_, r4_] x4_ x2_ = true := by simp [own_lt, hc99]
      refine ⟨rfl, K_, F_a_rank, F_a_heap, F_a_size, ?_⟩
      simp only [own_r4, l_hc75, l_hc99, if_true, if_false, Bool.false_eq_true]; exact A_q

theorem d1_0 : decode prog_28_method_1_code 0 = .ok (.aload_n 0, 1) := by decide +kernel
theorem d1_1 : decode prog_28_method_1_code 1 = .ok (.invokespecial 1, 3) := by decide +kernel
theorem d1_4 : decode prog_28_method_1_code 4 = .ok (.aload_n 0, 1) := by decide +kernel
theorem d1_5 : decode prog_28_method_1_code 5 = .ok (.aload_n 1, 1) := by decide +kernel
theorem d1_6 : decode prog_28_method_1_code 6 = .ok (.putfield 7, 3) := by decide +kernel
theorem d1_9 : decode prog_28_method_1_code 9 = .ok (.aload_n 0, 1) := by decide +kernel
theorem d1_10 : decode prog_28_method_1_code 10 = .ok (.aload_n 1, 1) := by decide +kernel
theorem d1_11 : decode prog_28_method_1_code 11 = .ok (.arraylength, 1) := by decide +kernel
theorem d1_12 : decode prog_28_method_1_code 12 = .ok (.newarray .int, 2) := by decide +kernel
theorem d1_14 : decode prog_28_method_1_code 14 = .ok (.putfield 13, 3) := by decide +kernel
theorem d1_17 : decode prog_28_method_1_code 17 = .ok (.return_, 1) := by decide +kernel
theorem pn1 : plainName "com/example/precedence/precedence/IntHeap" = true := by first | (simp [plainName, overriddenIn]; done) | decide +kernel
theorem ef1 (m : MethodId) (x0 : Addr) (x1 : Addr) : entryFrame m #[(.ref x0), (.ref x1)] 2 = mkF m 0 #[.val (.ref x0), .val (.ref x1)] [] := by first | (simp [entryFrame, mkF, argsToLocals, Value.category]; done) | rfl
set_option maxRecDepth 65536 in
set_option maxHeartbeats 40000000 in
theorem own_newH (l : Launch) (Z : State) (a0 : Array Value) (hw : ∀ d ∈ tables_1, d.before a0 Z = true) (a : Addr) (r : Addr) (r0_ r1_ r2_ r3_ r4_ : Int32) (h0 : Heap) (n0 : Nat) (Z_ : n0 ≤ h0.size) (E_a : Exa Z h0 a "com/example/precedence/precedence/IntHeap") (F_a_rank : Fld Z h0 a "com/example/precedence/precedence/IntHeap" "rank" "[I" .null) (F_a_heap : Fld Z h0 a "com/example/precedence/precedence/IntHeap" "heap" "[I" .null) (F_a_size : Fld Z h0 a "com/example/precedence/precedence/IntHeap" "size" "I" (.int (0 : Int32))) (g_a : n0 ≤ a) (A_r : AI Z h0 r .int [r0_, r1_, r2_, r3_, r4_]) (ne_a_r : a ≠ r) :
    Met l (⟨"com/example/precedence/precedence/IntHeap", "<init>", "([I)V"⟩ : MethodName) prog_28_method_1_code 2 none [] ({ frames := 1, cells := 1, slots := 5, locals := 12 } : Room) Z n0 #[(.ref a), (.ref r)] h0 (fun v h => v = none ∧ Keep h0 h [a] ∧ ∃ q : Addr, h0.size ≤ q ∧ Fld Z h a "com/example/precedence/precedence/IntHeap" "rank" "[I" (.ref r) ∧ Fld Z h a "com/example/precedence/precedence/IntHeap" "heap" "[I" (.ref q) ∧ Fld Z h a "com/example/precedence/precedence/IntHeap" "size" "I" (.int (0 : Int32)) ∧ AI Z h q .int [0, 0, 0, 0, 0]) := by
  refine own_met pn1 (fun m => ef1 m a r) ?_
  intro p e s m below meth c C
  have K_ : Keep h0 h0 [a] := Keep.refl _ _
  refine own_aloadN (pc' := 1) C d1_0 rfl rfl rfl ?_
  refine own_initO (pc' := 4) (wL := 0) C d1_1 (hw _ (List.mem_of_getElem? (i := 7) rfl)) (hw _ (List.mem_of_getElem? (i := 8) rfl)) (hw _ (List.mem_of_getElem? (i := 9) rfl)) rfl (by decide) (Nat.le_of_eq rfl) (by decide) rfl ?_
  refine own_aloadN (pc' := 5) C d1_4 rfl rfl rfl ?_
  refine own_aloadN (pc' := 6) C d1_5 rfl rfl rfl ?_
  refine own_putfield (pc' := 9) C d1_6 (hw _ (List.mem_of_getElem? (i := 10) rfl)) F_a_rank E_a (Or.inr ⟨(hw _ (List.mem_of_getElem? (i := 11) rfl)), rfl, rfl⟩) (hw _ (List.mem_of_getElem? (i := 2) rfl)) (ty := (.array .int)) (by decide) rfl rfl g_a rfl ?_
  intro h1 W1 F1_
  replace E_a := E_a.wr W1
  replace F_a_heap := F_a_heap.other W1 (Or.inr (slot_ne (Or.inr (hw _ (List.mem_of_getElem? (i := 13) rfl))) (Or.inr (hw _ (List.mem_of_getElem? (i := 11) rfl))) (by decide) (t := (.array .int)) (t' := (.array .int)) (by decide) (by decide)))
  replace F_a_size := F_a_size.other W1 (Or.inr (slot_ne (Or.inl (hw _ (List.mem_of_getElem? (i := 20) rfl))) (Or.inr (hw _ (List.mem_of_getElem? (i := 11) rfl))) (by decide) (t := .int) (t' := (.array .int)) (by decide) (by decide)))
  replace A_r := A_r.other W1 (Ne.symm ne_a_r)
  replace F_a_rank := F1_
  replace Z_ : n0 ≤ _ := Nat.le_trans Z_ (Nat.le_of_eq W1.size.symm)
  replace K_ := K_.wr W1 (Or.inl (List.mem_of_getElem? (i := 0) rfl))
  refine own_aloadN (pc' := 10) C d1_9 rfl rfl rfl ?_
  refine own_aloadN (pc' := 11) C d1_10 rfl rfl rfl ?_
  refine own_lenI (pc' := 12) (v := (5 : Int32)) C d1_11 A_r rfl rfl ?_
  refine own_newI (pc' := 14) (len := 5) (cap := 5) C d1_12 rfl rfl (hw _ (List.mem_of_getElem? (i := 0) rfl)) (by decide) rfl (by decide) (by decide) (by decide) (by decide) rfl ?_
  intro h2 b2 g2 X2 A_b2
  have ne_a_b2 : a ≠ b2 := Nat.ne_of_lt (g2 ▸ E_a.lt)
  have ne_r_b2 : r ≠ b2 := Nat.ne_of_lt (g2 ▸ A_r.lt)
  replace E_a := E_a.ext X2
  replace F_a_rank := F_a_rank.ext X2
  replace F_a_heap := F_a_heap.ext X2
  replace F_a_size := F_a_size.ext X2
  replace A_r := A_r.ext X2
  have g_b2 : n0 ≤ b2 := g2 ▸ Z_
  have sz_b2 : h0.size ≤ b2 := g2 ▸ K_.1
  replace K_ := K_.ext X2
  replace Z_ := Nat.le_trans Z_ X2.1
  replace A_b2 : AI Z h2 b2 .int [(0 : Int32), (0 : Int32), (0 : Int32), (0 : Int32), (0 : Int32)] := A_b2
  refine own_putfield (pc' := 17) C d1_14 (hw _ (List.mem_of_getElem? (i := 12) rfl)) F_a_heap E_a (Or.inr ⟨(hw _ (List.mem_of_getElem? (i := 13) rfl)), rfl, rfl⟩) (hw _ (List.mem_of_getElem? (i := 2) rfl)) (ty := (.array .int)) (by decide) rfl rfl g_a rfl ?_
  intro h3 W3 F3_
  replace E_a := E_a.wr W3
  replace F_a_rank := F_a_rank.other W3 (Or.inr (slot_ne (Or.inr (hw _ (List.mem_of_getElem? (i := 11) rfl))) (Or.inr (hw _ (List.mem_of_getElem? (i := 13) rfl))) (by decide) (t := (.array .int)) (t' := (.array .int)) (by decide) (by decide)))
  replace F_a_size := F_a_size.other W3 (Or.inr (slot_ne (Or.inl (hw _ (List.mem_of_getElem? (i := 20) rfl))) (Or.inr (hw _ (List.mem_of_getElem? (i := 13) rfl))) (by decide) (t := .int) (t' := (.array .int)) (by decide) (by decide)))
  replace A_r := A_r.other W3 (Ne.symm ne_a_r)
  replace A_b2 := A_b2.other W3 (Ne.symm ne_a_b2)
  replace F_a_heap := F3_
  replace Z_ : n0 ≤ _ := Nat.le_trans Z_ (Nat.le_of_eq W3.size.symm)
  replace K_ := K_.wr W3 (Or.inl (List.mem_of_getElem? (i := 0) rfl))
  refine own_vret C d1_17 (by decide) (by decide) ?_
  exact ⟨rfl, K_, b2, sz_b2, F_a_rank, F_a_heap, F_a_size, A_b2⟩

def own_bl (c r q : Int32) : Int32 := if r < q then c + 1 else c
def own_below (r0 r1 r2 r3 r4 q : Int32) : Int32 := own_bl (own_bl (own_bl (own_bl (if r0 < q then 1 else 0) r1 q) r2 q) r3 q) r4 q
def own_at (r0 r1 r2 r3 r4 q k : Int32) : Int32 := if own_below r0 r1 r2 r3 r4 q = k then 1 else 0
theorem own_le4 {x : Int32} (h : own_in x) : ¬ (4 : Int32) < x := by
  obtain ⟨h1, h2⟩ := h
  have k0 : (0 : Int32).toInt = 0 := rfl
  have k4 : (4 : Int32).toInt = 4 := rfl
  rw [Int32.lt_iff_toInt_lt] at h1 ⊢
  simp only [Int32.toNatClampNeg] at h2
  omega

theorem d6_0 : decode method_2_code 0 = .ok (.iconst 0, 1) := by decide +kernel
theorem d6_1 : decode method_2_code 1 = .ok (.istore_n 2, 1) := by decide +kernel
theorem d6_2 : decode method_2_code 2 = .ok (.aload_n 0, 1) := by decide +kernel
theorem d6_3 : decode method_2_code 3 = .ok (.iconst 0, 1) := by decide +kernel
theorem d6_4 : decode method_2_code 4 = .ok (.iaload, 1) := by decide +kernel
theorem d6_5 : decode method_2_code 5 = .ok (.aload_n 0, 1) := by decide +kernel
theorem d6_6 : decode method_2_code 6 = .ok (.iload_n 1, 1) := by decide +kernel
theorem d6_7 : decode method_2_code 7 = .ok (.iaload, 1) := by decide +kernel
theorem d6_8 : decode method_2_code 8 = .ok (.if_icmp .ge 6, 3) := by decide +kernel
theorem d6_11 : decode method_2_code 11 = .ok (.iinc 2 1, 3) := by decide +kernel
theorem d6_14 : decode method_2_code 14 = .ok (.aload_n 0, 1) := by decide +kernel
theorem d6_15 : decode method_2_code 15 = .ok (.iconst 1, 1) := by decide +kernel
theorem d6_16 : decode method_2_code 16 = .ok (.iaload, 1) := by decide +kernel
theorem d6_17 : decode method_2_code 17 = .ok (.aload_n 0, 1) := by decide +kernel
theorem d6_18 : decode method_2_code 18 = .ok (.iload_n 1, 1) := by decide +kernel
theorem d6_19 : decode method_2_code 19 = .ok (.iaload, 1) := by decide +kernel
theorem d6_20 : decode method_2_code 20 = .ok (.if_icmp .ge 6, 3) := by decide +kernel
theorem d6_23 : decode method_2_code 23 = .ok (.iinc 2 1, 3) := by decide +kernel
theorem d6_26 : decode method_2_code 26 = .ok (.aload_n 0, 1) := by decide +kernel
theorem d6_27 : decode method_2_code 27 = .ok (.iconst 2, 1) := by decide +kernel
theorem d6_28 : decode method_2_code 28 = .ok (.iaload, 1) := by decide +kernel
theorem d6_29 : decode method_2_code 29 = .ok (.aload_n 0, 1) := by decide +kernel
theorem d6_30 : decode method_2_code 30 = .ok (.iload_n 1, 1) := by decide +kernel
theorem d6_31 : decode method_2_code 31 = .ok (.iaload, 1) := by decide +kernel
theorem d6_32 : decode method_2_code 32 = .ok (.if_icmp .ge 6, 3) := by decide +kernel
theorem d6_35 : decode method_2_code 35 = .ok (.iinc 2 1, 3) := by decide +kernel
theorem d6_38 : decode method_2_code 38 = .ok (.aload_n 0, 1) := by decide +kernel
theorem d6_39 : decode method_2_code 39 = .ok (.iconst 3, 1) := by decide +kernel
theorem d6_40 : decode method_2_code 40 = .ok (.iaload, 1) := by decide +kernel
theorem d6_41 : decode method_2_code 41 = .ok (.aload_n 0, 1) := by decide +kernel
theorem d6_42 : decode method_2_code 42 = .ok (.iload_n 1, 1) := by decide +kernel
theorem d6_43 : decode method_2_code 43 = .ok (.iaload, 1) := by decide +kernel
theorem d6_44 : decode method_2_code 44 = .ok (.if_icmp .ge 6, 3) := by decide +kernel
theorem d6_47 : decode method_2_code 47 = .ok (.iinc 2 1, 3) := by decide +kernel
theorem d6_50 : decode method_2_code 50 = .ok (.aload_n 0, 1) := by decide +kernel
theorem d6_51 : decode method_2_code 51 = .ok (.iconst 4, 1) := by decide +kernel
theorem d6_52 : decode method_2_code 52 = .ok (.iaload, 1) := by decide +kernel
theorem d6_53 : decode method_2_code 53 = .ok (.aload_n 0, 1) := by decide +kernel
theorem d6_54 : decode method_2_code 54 = .ok (.iload_n 1, 1) := by decide +kernel
theorem d6_55 : decode method_2_code 55 = .ok (.iaload, 1) := by decide +kernel
theorem d6_56 : decode method_2_code 56 = .ok (.if_icmp .ge 6, 3) := by decide +kernel
theorem d6_59 : decode method_2_code 59 = .ok (.iinc 2 1, 3) := by decide +kernel
theorem d6_62 : decode method_2_code 62 = .ok (.iload_n 2, 1) := by decide +kernel
theorem d6_63 : decode method_2_code 63 = .ok (.ireturn, 1) := by decide +kernel
theorem pn6 : plainName "com/example/precedence/precedence/IntHeapPollPinLaw" = true := by first | (simp [plainName, overriddenIn]; done) | decide +kernel
theorem ef6 (m : MethodId) (x0 : Addr) (x1 : Int32) : entryFrame m #[(.ref x0), (.int x1)] 3 = mkF m 0 #[.val (.ref x0), .val (.int x1), .unset] [] := by first | (simp [entryFrame, mkF, argsToLocals, Value.category]; done) | rfl
theorem own_ki_3 : Int32.ofInt (3) = (3 : Int32) := by decide
theorem own_ki_4 : Int32.ofInt (4) = (4 : Int32) := by decide
set_option maxRecDepth 65536 in
set_option maxHeartbeats 40000000 in
theorem own_blw (l : Launch) (Z : State) (a0 : Array Value) (hw : ∀ d ∈ tables_1, d.before a0 Z = true) (r : Addr) (u : Int32) (r0_ r1_ r2_ r3_ r4_ : Int32) (h0 : Heap) (n0 : Nat) (Z_ : n0 ≤ h0.size) (A_r : AI Z h0 r .int [r0_, r1_, r2_, r3_, r4_]) (hi_u : own_in u) :
    Met l (⟨"com/example/precedence/precedence/IntHeapPollPinLaw", "below", "([II)I"⟩ : MethodName) method_2_code 3 (some .int) [] ({ frames := 0, cells := 0, slots := 0, locals := 0 } : Room) Z n0 #[(.ref r), (.int u)] h0 (fun v h => v = some (.int (own_below r0_ r1_ r2_ r3_ r4_ (own_rk [r0_, r1_, r2_, r3_, r4_] u))) ∧ h0 = h) := by
  refine own_met pn6 (fun m => ef6 m r u) ?_
  intro p e s m below meth c C
  refine own_iconst (pc' := 1) (v := (0 : Int32)) C d6_0 own_ki_0 rfl ?_
  refine own_istoreN (pc' := 2) (y := (0 : Int32)) (Ls' := #[.val (.ref r), .val (.int u), .val (.int (0 : Int32))]) C d6_1 rfl rfl rfl ?_
  refine own_aloadN (pc' := 3) C d6_2 rfl rfl rfl ?_
  refine own_iconst (pc' := 4) (v := (0 : Int32)) C d6_3 own_ki_0 rfl ?_
  refine own_iaload (pc' := 5) (v := r0_) (i := 0) C d6_4 A_r (by decide) rfl rfl rfl ?_
  refine own_aloadN (pc' := 6) C d6_5 rfl rfl rfl ?_
  refine own_iloadN (pc' := 7) C d6_6 rfl rfl ?_
  refine own_iaload (pc' := 8) (v := (own_rk [r0_, r1_, r2_, r3_, r4_] u)) (i := u.toNatClampNeg) C d6_7 A_r hi_u.1 rfl (own_get hi_u) rfl ?_
  obtain ⟨v2_14, hv2_14⟩ : ∃ z : Int32, z = (if r0_ < (own_rk [r0_, r1_, r2_, r3_, r4_] u) then (1 : Int32) else (0 : Int32)) := ⟨_, rfl⟩
  have hzv2_14 : v2_14 = 0 ∨ v2_14 = 1 := by rw [hv2_14]; repeat (first | exact Or.inl rfl | exact Or.inr rfl | split)
  refine own_seq (g' := mkF m 14 #[.val (.ref r), .val (.int u), .val (.int v2_14)] []) (fun J14 => ?_) ?_
  · refine own_icmp_ge (pt := 14) (pf := 11) C d6_8 (by decide) (by decide) rfl ?_ ?_
    · intro hc8
      exact own_cast (by simp only [hv2_14, if_neg hc8]) (J14)
    · intro hc8
      refine own_iinc (pc' := 14) (v := (1 : Int32)) (Ls' := #[.val (.ref r), .val (.int u), .val (.int (1 : Int32))]) C d6_11 rfl (by decide) rfl rfl ?_
      exact own_cast (by simp only [hv2_14, if_pos hc8]) (J14)
  refine own_aloadN (pc' := 15) C d6_14 rfl rfl rfl ?_
  refine own_iconst (pc' := 16) (v := (1 : Int32)) C d6_15 own_ki_1 rfl ?_
  refine own_iaload (pc' := 17) (v := r1_) (i := 1) C d6_16 A_r (by decide) rfl rfl rfl ?_
  refine own_aloadN (pc' := 18) C d6_17 rfl rfl rfl ?_
  refine own_iloadN (pc' := 19) C d6_18 rfl rfl ?_
  refine own_iaload (pc' := 20) (v := (own_rk [r0_, r1_, r2_, r3_, r4_] u)) (i := u.toNatClampNeg) C d6_19 A_r hi_u.1 rfl (own_get hi_u) rfl ?_
  obtain ⟨v2_26, hv2_26⟩ : ∃ z : Int32, z = (if r1_ < (own_rk [r0_, r1_, r2_, r3_, r4_] u) then (v2_14 + (1 : Int32)) else v2_14) := ⟨_, rfl⟩
  refine own_seq (g' := mkF m 26 #[.val (.ref r), .val (.int u), .val (.int v2_26)] []) (fun J26 => ?_) ?_
  · refine own_icmp_ge (pt := 26) (pf := 23) C d6_20 (by decide) (by decide) rfl ?_ ?_
    · intro hc20
      exact own_cast (by simp only [hv2_26, if_neg hc20]) (J26)
    · intro hc20
      refine own_iinc (pc' := 26) (v := (v2_14 + (1 : Int32))) (Ls' := #[.val (.ref r), .val (.int u), .val (.int (v2_14 + (1 : Int32)))]) C d6_23 rfl rfl rfl rfl ?_
      exact own_cast (by simp only [hv2_26, if_pos hc20]) (J26)
  refine own_aloadN (pc' := 27) C d6_26 rfl rfl rfl ?_
  refine own_iconst (pc' := 28) (v := (2 : Int32)) C d6_27 own_ki_2 rfl ?_
  refine own_iaload (pc' := 29) (v := r2_) (i := 2) C d6_28 A_r (by decide) rfl rfl rfl ?_
  refine own_aloadN (pc' := 30) C d6_29 rfl rfl rfl ?_
  refine own_iloadN (pc' := 31) C d6_30 rfl rfl ?_
  refine own_iaload (pc' := 32) (v := (own_rk [r0_, r1_, r2_, r3_, r4_] u)) (i := u.toNatClampNeg) C d6_31 A_r hi_u.1 rfl (own_get hi_u) rfl ?_
  obtain ⟨v2_38, hv2_38⟩ : ∃ z : Int32, z = (if r2_ < (own_rk [r0_, r1_, r2_, r3_, r4_] u) then (v2_26 + (1 : Int32)) else v2_26) := ⟨_, rfl⟩
  refine own_seq (g' := mkF m 38 #[.val (.ref r), .val (.int u), .val (.int v2_38)] []) (fun J38 => ?_) ?_
  · refine own_icmp_ge (pt := 38) (pf := 35) C d6_32 (by decide) (by decide) rfl ?_ ?_
    · intro hc32
      exact own_cast (by simp only [hv2_38, if_neg hc32]) (J38)
    · intro hc32
      refine own_iinc (pc' := 38) (v := (v2_26 + (1 : Int32))) (Ls' := #[.val (.ref r), .val (.int u), .val (.int (v2_26 + (1 : Int32)))]) C d6_35 rfl rfl rfl rfl ?_
      exact own_cast (by simp only [hv2_38, if_pos hc32]) (J38)
  refine own_aloadN (pc' := 39) C d6_38 rfl rfl rfl ?_
  refine own_iconst (pc' := 40) (v := (3 : Int32)) C d6_39 own_ki_3 rfl ?_
  refine own_iaload (pc' := 41) (v := r3_) (i := 3) C d6_40 A_r (by decide) rfl rfl rfl ?_
  refine own_aloadN (pc' := 42) C d6_41 rfl rfl rfl ?_
  refine own_iloadN (pc' := 43) C d6_42 rfl rfl ?_
  refine own_iaload (pc' := 44) (v := (own_rk [r0_, r1_, r2_, r3_, r4_] u)) (i := u.toNatClampNeg) C d6_43 A_r hi_u.1 rfl (own_get hi_u) rfl ?_
  obtain ⟨v2_50, hv2_50⟩ : ∃ z : Int32, z = (if r3_ < (own_rk [r0_, r1_, r2_, r3_, r4_] u) then (v2_38 + (1 : Int32)) else v2_38) := ⟨_, rfl⟩
  refine own_seq (g' := mkF m 50 #[.val (.ref r), .val (.int u), .val (.int v2_50)] []) (fun J50 => ?_) ?_
  · refine own_icmp_ge (pt := 50) (pf := 47) C d6_44 (by decide) (by decide) rfl ?_ ?_
    · intro hc44
      exact own_cast (by simp only [hv2_50, if_neg hc44]) (J50)
    · intro hc44
      refine own_iinc (pc' := 50) (v := (v2_38 + (1 : Int32))) (Ls' := #[.val (.ref r), .val (.int u), .val (.int (v2_38 + (1 : Int32)))]) C d6_47 rfl rfl rfl rfl ?_
      exact own_cast (by simp only [hv2_50, if_pos hc44]) (J50)
  refine own_aloadN (pc' := 51) C d6_50 rfl rfl rfl ?_
  refine own_iconst (pc' := 52) (v := (4 : Int32)) C d6_51 own_ki_4 rfl ?_
  refine own_iaload (pc' := 53) (v := r4_) (i := 4) C d6_52 A_r (by decide) rfl rfl rfl ?_
  refine own_aloadN (pc' := 54) C d6_53 rfl rfl rfl ?_
  refine own_iloadN (pc' := 55) C d6_54 rfl rfl ?_
  refine own_iaload (pc' := 56) (v := (own_rk [r0_, r1_, r2_, r3_, r4_] u)) (i := u.toNatClampNeg) C d6_55 A_r hi_u.1 rfl (own_get hi_u) rfl ?_
  obtain ⟨v2_62, hv2_62⟩ : ∃ z : Int32, z = (if r4_ < (own_rk [r0_, r1_, r2_, r3_, r4_] u) then (v2_50 + (1 : Int32)) else v2_50) := ⟨_, rfl⟩
  refine own_seq (g' := mkF m 62 #[.val (.ref r), .val (.int u), .val (.int v2_62)] []) (fun J62 => ?_) ?_
  · refine own_icmp_ge (pt := 62) (pf := 59) C d6_56 (by decide) (by decide) rfl ?_ ?_
    · intro hc56
      exact own_cast (by simp only [hv2_62, if_neg hc56]) (J62)
    · intro hc56
      refine own_iinc (pc' := 62) (v := (v2_50 + (1 : Int32))) (Ls' := #[.val (.ref r), .val (.int u), .val (.int (v2_50 + (1 : Int32)))]) C d6_59 rfl rfl rfl rfl ?_
      exact own_cast (by simp only [hv2_62, if_pos hc56]) (J62)
  refine own_iloadN (pc' := 63) C d6_62 rfl rfl ?_
  refine own_iret C d6_63 (by decide) (by decide) ?_
  exact ⟨by simp only [own_below, own_bl, ← hv2_14, ← hv2_26, ← hv2_38, ← hv2_50, ← hv2_62], rfl⟩

theorem d5_0 : decode method_3_code 0 = .ok (.iload_n 1, 1) := by decide +kernel
theorem d5_1 : decode method_3_code 1 = .ok (.ifCond .lt 8, 3) := by decide +kernel
theorem d5_4 : decode method_3_code 4 = .ok (.iload_n 1, 1) := by decide +kernel
theorem d5_5 : decode method_3_code 5 = .ok (.iconst 4, 1) := by decide +kernel
theorem d5_6 : decode method_3_code 6 = .ok (.if_icmp .le 5, 3) := by decide +kernel
theorem d5_11 : decode method_3_code 11 = .ok (.aload_n 0, 1) := by decide +kernel
theorem d5_12 : decode method_3_code 12 = .ok (.iload_n 1, 1) := by decide +kernel
theorem d5_13 : decode method_3_code 13 = .ok (.invokestatic 7, 3) := by decide +kernel
theorem d5_16 : decode method_3_code 16 = .ok (.iload_n 2, 1) := by decide +kernel
theorem d5_17 : decode method_3_code 17 = .ok (.if_icmp .ne 7, 3) := by decide +kernel
theorem d5_20 : decode method_3_code 20 = .ok (.iconst 1, 1) := by decide +kernel
theorem d5_21 : decode method_3_code 21 = .ok (.goto 4, 3) := by decide +kernel
theorem d5_24 : decode method_3_code 24 = .ok (.iconst 0, 1) := by decide +kernel
theorem d5_25 : decode method_3_code 25 = .ok (.ireturn, 1) := by decide +kernel
theorem pn5 : plainName "com/example/precedence/precedence/IntHeapPollPinLaw" = true := by first | (simp [plainName, overriddenIn]; done) | decide +kernel
theorem ef5 (m : MethodId) (x0 : Addr) (x1 : Int32) (x2 : Int32) : entryFrame m #[(.ref x0), (.int x1), (.int x2)] 3 = mkF m 0 #[.val (.ref x0), .val (.int x1), .val (.int x2)] [] := by first | (simp [entryFrame, mkF, argsToLocals, Value.category]; done) | rfl
theorem pd6 : parseMethodDescriptor "([II)I" = some ⟨[(.array .int), .int], some .int⟩ := by decide +kernel
set_option maxRecDepth 65536 in
set_option maxHeartbeats 40000000 in
theorem own_att (l : Launch) (Z : State) (a0 : Array Value) (hw : ∀ d ∈ tables_1, d.before a0 Z = true) (r : Addr) (u : Int32) (kk : Int32) (r0_ r1_ r2_ r3_ r4_ : Int32) (h0 : Heap) (n0 : Nat) (Z_ : n0 ≤ h0.size) (A_r : AI Z h0 r .int [r0_, r1_, r2_, r3_, r4_]) (hi_u : own_in u) :
    Met l (⟨"com/example/precedence/precedence/IntHeapPollPinLaw", "at", "([III)Z"⟩ : MethodName) method_3_code 3 (some .boolean) [] ({ frames := 1, cells := 0, slots := 0, locals := 14 } : Room) Z n0 #[(.ref r), (.int u), (.int kk)] h0 (fun v h => v = some (.int (own_at r0_ r1_ r2_ r3_ r4_ (own_rk [r0_, r1_, r2_, r3_, r4_] u) kk)) ∧ h0 = h) := by
  refine own_met pn5 (fun m => ef5 m r u kk) ?_
  intro p e s m below meth c C
  refine own_iloadN (pc' := 1) C d5_0 rfl rfl ?_
  refine own_if_lt (pt := 9) (pf := 4) C d5_1 (by decide) (by decide) rfl (fun q => absurd q hi_u.1) (fun _ => ?_)
  refine own_iloadN (pc' := 5) C d5_4 rfl rfl ?_
  refine own_iconst (pc' := 6) (v := (4 : Int32)) C d5_5 own_ki_4 rfl ?_
  refine own_icmp_le (pt := 11) (pf := 9) C d5_6 (by decide) (by decide) rfl (fun _ => ?_) (fun q => absurd q (own_le4 hi_u))
  refine own_aloadN (pc' := 12) C d5_11 rfl rfl rfl ?_
  refine own_iloadN (pc' := 13) C d5_12 rfl rfl ?_
  refine own_callS (pc' := 16) (wL := 0) (argsL := [(.ref r), (.int u)]) (rest := []) C (own_blw l Z a0 hw r u r0_ r1_ r2_ r3_ r4_ h0 n0 Z_ A_r hi_u) d5_13 (hw _ (List.mem_of_getElem? (i := 30) rfl)) (hw _ (List.mem_of_getElem? (i := 31) rfl)) (hw _ (List.mem_of_getElem? (i := 28) rfl)) (hw _ (List.mem_of_getElem? (i := 32) rfl)) (by decide) (by decide) (by decide) rfl (lenOf pd6 rfl) rfl rfl (Nat.le_of_eq rfl) (by decide) (by decide) rfl ?_
  rintro _ _ ⟨rfl, rfl⟩
  show Wp p l e _ s m _ below meth c n0 _ h0 0 0 (mkF m 16 #[.val (.ref r), .val (.int u), .val (.int kk)] [(.int (own_below r0_ r1_ r2_ r3_ r4_ (own_rk [r0_, r1_, r2_, r3_, r4_] u)))])
  refine own_iloadN (pc' := 17) C d5_16 rfl rfl ?_
  obtain ⟨vs_25, hvs_25⟩ : ∃ z : Int32, z = (if (own_below r0_ r1_ r2_ r3_ r4_ (own_rk [r0_, r1_, r2_, r3_, r4_] u)) = kk then (1 : Int32) else (0 : Int32)) := ⟨_, rfl⟩
  have hzvs_25 : vs_25 = 0 ∨ vs_25 = 1 := by rw [hvs_25]; repeat (first | exact Or.inl rfl | exact Or.inr rfl | split)
  refine own_seq (g' := mkF m 25 #[.val (.ref r), .val (.int u), .val (.int kk)] [(.int vs_25)]) (fun J25 => ?_) ?_
  · refine own_icmp_ne (pt := 24) (pf := 20) C d5_17 (by decide) (by decide) rfl ?_ ?_
    · intro hc17
      refine own_iconst (pc' := 25) (v := (0 : Int32)) C d5_24 own_ki_0 rfl ?_
      exact own_cast (by simp only [hvs_25, if_neg hc17]) (J25)
    · intro hc17
      refine own_iconst (pc' := 21) (v := (1 : Int32)) C d5_20 own_ki_1 rfl ?_
      refine own_goto (pc' := 25) C d5_21 (by decide) (by decide) ?_
      exact own_cast (by simp only [hvs_25, if_pos hc17]) (J25)
  refine own_zret C d5_25 (by decide) (by decide) hzvs_25 ?_
  exact ⟨by rw [own_at, hvs_25], rfl⟩

def own_emp (n : Int32) : Int32 := if n = 0 then 1 else 0

theorem d7_0 : decode prog_28_method_2_code 0 = .ok (.aload_n 0, 1) := by decide +kernel
theorem d7_1 : decode prog_28_method_2_code 1 = .ok (.getfield 16, 3) := by decide +kernel
theorem d7_4 : decode prog_28_method_2_code 4 = .ok (.ifCond .ne 7, 3) := by decide +kernel
theorem d7_7 : decode prog_28_method_2_code 7 = .ok (.iconst 1, 1) := by decide +kernel
theorem d7_8 : decode prog_28_method_2_code 8 = .ok (.goto 4, 3) := by decide +kernel
theorem d7_11 : decode prog_28_method_2_code 11 = .ok (.iconst 0, 1) := by decide +kernel
theorem d7_12 : decode prog_28_method_2_code 12 = .ok (.ireturn, 1) := by decide +kernel
theorem pn7 : plainName "com/example/precedence/precedence/IntHeap" = true := by first | (simp [plainName, overriddenIn]; done) | decide +kernel
theorem ef7 (m : MethodId) (x0 : Addr) : entryFrame m #[(.ref x0)] 1 = mkF m 0 #[.val (.ref x0)] [] := by first | (simp [entryFrame, mkF, argsToLocals, Value.category]; done) | rfl
set_option maxRecDepth 65536 in
set_option maxHeartbeats 40000000 in
theorem own_m7 (l : Launch) (Z : State) (a0 : Array Value) (hw : ∀ d ∈ tables_1, d.before a0 Z = true) (a : Addr) (w_size : Int32) (h0 : Heap) (n0 : Nat) (Z_ : n0 ≤ h0.size) (F_a_size : Fld Z h0 a "com/example/precedence/precedence/IntHeap" "size" "I" (.int w_size)) :
    Met l (⟨"com/example/precedence/precedence/IntHeap", "isEmpty", "()Z"⟩ : MethodName) prog_28_method_2_code 1 (some .boolean) [] ({ frames := 0, cells := 0, slots := 0, locals := 0 } : Room) Z n0 #[(.ref a)] h0 (fun v h => v = some (.int (own_emp w_size)) ∧ h0 = h) := by
  refine own_met pn7 (fun m => ef7 m a) ?_
  intro p e s m below meth c C
  refine own_aloadN (pc' := 1) C d7_0 rfl rfl rfl ?_
  refine own_getfield (pc' := 4) C d7_1 (hw _ (List.mem_of_getElem? (i := 19) rfl)) F_a_size rfl ?_
  obtain ⟨vs_12, hvs_12⟩ : ∃ z : Int32, z = (if w_size = 0 then (1 : Int32) else (0 : Int32)) := ⟨_, rfl⟩
  have hzvs_12 : vs_12 = 0 ∨ vs_12 = 1 := by rw [hvs_12]; repeat (first | exact Or.inl rfl | exact Or.inr rfl | split)
  refine own_seq (g' := mkF m 12 #[.val (.ref a)] [(.int vs_12)]) (fun J12 => ?_) ?_
  · refine own_if_ne (pt := 11) (pf := 7) C d7_4 (by decide) (by decide) rfl ?_ ?_
    · intro hc4
      refine own_iconst (pc' := 12) (v := (0 : Int32)) C d7_11 own_ki_0 rfl ?_
      exact own_cast (by simp only [hvs_12, if_neg hc4]) (J12)
    · intro hc4
      refine own_iconst (pc' := 8) (v := (1 : Int32)) C d7_7 own_ki_1 rfl ?_
      refine own_goto (pc' := 12) C d7_8 (by decide) (by decide) ?_
      exact own_cast (by simp only [hvs_12, if_pos hc4]) (J12)
  refine own_zret C d7_12 (by decide) (by decide) hzvs_12 ?_
  exact ⟨by rw [own_emp, hvs_12], rfl⟩

section OwnNat
variable {α β : Type} (f : β → α) (lt : α → α → Bool)
theorem own_p1N (x v : β) : own_p1 lt (f x) (f v) = (f (own_p1 (fun i j => lt (f i) (f j)) x v).1, f (own_p1 (fun i j => lt (f i) (f j)) x v).2) := by simp only [own_p1]; split <;> rfl
theorem own_p2N (x y v : β) : own_p2 lt (f x) (f y) (f v) = (f (own_p2 (fun i j => lt (f i) (f j)) x y v).1, f (own_p2 (fun i j => lt (f i) (f j)) x y v).2.1, f (own_p2 (fun i j => lt (f i) (f j)) x y v).2.2) := by simp only [own_p2]; split <;> rfl
theorem own_p3N (x y z v : β) : own_p3 lt (f x) (f y) (f z) (f v) = (f (own_p3 (fun i j => lt (f i) (f j)) x y z v).1, f (own_p3 (fun i j => lt (f i) (f j)) x y z v).2.1, f (own_p3 (fun i j => lt (f i) (f j)) x y z v).2.2.1, f (own_p3 (fun i j => lt (f i) (f j)) x y z v).2.2.2) := by simp only [own_p3]; split <;> (try split) <;> rfl
theorem own_p4N (x y z u v : β) : own_p4 lt (f x) (f y) (f z) (f u) (f v) = (f (own_p4 (fun i j => lt (f i) (f j)) x y z u v).1, f (own_p4 (fun i j => lt (f i) (f j)) x y z u v).2.1, f (own_p4 (fun i j => lt (f i) (f j)) x y z u v).2.2.1, f (own_p4 (fun i j => lt (f i) (f j)) x y z u v).2.2.2.1, f (own_p4 (fun i j => lt (f i) (f j)) x y z u v).2.2.2.2) := by simp only [own_p4]; split <;> (try split) <;> rfl
theorem own_q4N (x y z u v : β) : own_q4 lt (f x) (f y) (f z) (f u) (f v) = (f (own_q4 (fun i j => lt (f i) (f j)) x y z u v).1, f (own_q4 (fun i j => lt (f i) (f j)) x y z u v).2.1, f (own_q4 (fun i j => lt (f i) (f j)) x y z u v).2.2.1, f (own_q4 (fun i j => lt (f i) (f j)) x y z u v).2.2.2) := by simp only [own_q4]; split <;> split <;> (try split) <;> rfl
theorem own_q3N (x y z u : β) : own_q3 lt (f x) (f y) (f z) (f u) = (f (own_q3 (fun i j => lt (f i) (f j)) x y z u).1, f (own_q3 (fun i j => lt (f i) (f j)) x y z u).2.1, f (own_q3 (fun i j => lt (f i) (f j)) x y z u).2.2) := by simp only [own_q3]; split <;> split <;> rfl
theorem own_q2N (x y z : β) : own_q2 lt (f x) (f y) (f z) = (f (own_q2 (fun i j => lt (f i) (f j)) x y z).1, f (own_q2 (fun i j => lt (f i) (f j)) x y z).2) := by simp only [own_q2]; split <;> rfl
theorem own_csN (x y : β) : own_cs lt (f x) (f y) = (f (own_cs (fun i j => lt (f i) (f j)) x y).1, f (own_cs (fun i j => lt (f i) (f j)) x y).2) := by simp only [own_cs]; split <;> rfl
end OwnNat
def own_vec {α : Type} (a b c d e : α) : Nat → α | 0 => a | 1 => b | 2 => c | 3 => d | _ => e
theorem own_vecs {α : Type} (P : α → α → Nat → Nat → Prop) (a b c d e : α) (g : Fin 5 → α) (hg : g 0 = a ∧ g 1 = b ∧ g 2 = c ∧ g 3 = d ∧ g 4 = e) (x0 x1 x2 x3 x4 : Nat) (r : Fin 5 → Nat) (hr : r 0 = x0 ∧ r 1 = x1 ∧ r 2 = x2 ∧ r 3 = x3 ∧ r 4 = x4) (h : ∀ i j, P (g i) (g j) (r i) (r j)) (i j : Nat) : P (own_vec a b c d e i) (own_vec a b c d e j) (own_vec x0 x1 x2 x3 x4 i) (own_vec x0 x1 x2 x3 x4 j) := by
  obtain ⟨rfl, rfl, rfl, rfl, rfl⟩ := hg
  obtain ⟨rfl, rfl, rfl, rfl, rfl⟩ := hr
  have key : ∀ i : Nat, ∃ k : Fin 5, own_vec (g 0) (g 1) (g 2) (g 3) (g 4) i = g k ∧ own_vec (r 0) (r 1) (r 2) (r 3) (r 4) i = r k := fun i => by
    match i with
    | 0 => exact ⟨0, rfl, rfl⟩
    | 1 => exact ⟨1, rfl, rfl⟩
    | 2 => exact ⟨2, rfl, rfl⟩
    | 3 => exact ⟨3, rfl, rfl⟩
    | n + 4 => exact ⟨4, rfl, rfl⟩
  obtain ⟨k, e1, e2⟩ := key i
  obtain ⟨q, e3, e4⟩ := key j
  rw [e1, e2, e3, e4]
  exact h k q
section OwnNatI
variable {α β : Type} (f : β → α) (lt : α → α → Bool)
theorem own_r4N (x y z u v : β) : own_r4 lt (f x) (f y) (f z) (f u) (f v) = (f (own_r4 (fun i j => lt (f i) (f j)) x y z u v).1, f (own_r4 (fun i j => lt (f i) (f j)) x y z u v).2.1, f (own_r4 (fun i j => lt (f i) (f j)) x y z u v).2.2.1, f (own_r4 (fun i j => lt (f i) (f j)) x y z u v).2.2.2) := by simp only [own_r4]; split <;> split <;> (try split) <;> rfl
theorem own_r3N (x y z u : β) : own_r3 lt (f x) (f y) (f z) (f u) = (f (own_r3 (fun i j => lt (f i) (f j)) x y z u).1, f (own_r3 (fun i j => lt (f i) (f j)) x y z u).2.1, f (own_r3 (fun i j => lt (f i) (f j)) x y z u).2.2) := by simp only [own_r3]; split <;> split <;> rfl
theorem own_r2N (x y z : β) : own_r2 lt (f x) (f y) (f z) = (f (own_r2 (fun i j => lt (f i) (f j)) x y z).1, f (own_r2 (fun i j => lt (f i) (f j)) x y z).2) := by simp only [own_r2]; split <;> rfl
end OwnNatI
def own_run {α : Type} (lt : α → α → Bool) (a0 a1 a2 a3 a4 : α) : α × α × α × α × α :=
  let t1 := own_p1 lt a0 a1
  let t2 := own_p2 lt t1.1 t1.2 a2
  let t3 := own_p3 lt t2.1 t2.2.1 t2.2.2 a3
  let t4 := own_p4 lt t3.1 t3.2.1 t3.2.2.1 t3.2.2.2 a4
  let u4 := own_r4 lt t4.1 t4.2.1 t4.2.2.1 t4.2.2.2.1 t4.2.2.2.2
  let u3 := own_r3 lt u4.1 u4.2.1 u4.2.2.1 u4.2.2.2
  let u2 := own_r2 lt u3.1 u3.2.1 u3.2.2
  (t4.1, u4.1, u3.1, u2.1, u2.2)
def own_c1 (c : Int32) (b : Bool) : Int32 := if b = true then c + 1 else c
def own_cnt (b0 b1 b2 b3 b4 : Bool) : Int32 := own_c1 (own_c1 (own_c1 (own_c1 (if b0 = true then 1 else 0) b1) b2) b3) b4
def own_pos (r : Nat → Nat) (o : Nat) : Int32 := own_cnt (Nat.blt (r 0) (r o)) (Nat.blt (r 1) (r o)) (Nat.blt (r 2) (r o)) (Nat.blt (r 3) (r o)) (Nat.blt (r 4) (r o))
def own_dist (a b c d e : Nat) : Bool := !(Nat.beq a b) && !(Nat.beq a c) && !(Nat.beq a d) && !(Nat.beq a e) && !(Nat.beq b c) && !(Nat.beq b d) && !(Nat.beq b e) && !(Nat.beq c d) && !(Nat.beq c e) && !(Nat.beq d e)
def own_chk (r : Nat → Nat) : Bool :=
  let x := own_run (fun i j => Nat.blt (r i) (r j)) 0 1 2 3 4
  (own_pos r x.1 == 0) && (own_pos r x.2.1 == 1) && (own_pos r x.2.2.1 == 2) && (own_pos r x.2.2.2.1 == 3) && (own_pos r x.2.2.2.2 == 4)
set_option maxRecDepth 65536 in
theorem own_chk_all : ∀ a b c d e : Fin 5, (!(own_dist a.val b.val c.val d.val e.val) || own_chk (own_vec a.val b.val c.val d.val e.val)) = true := by decide +kernel
theorem own_runN {α β : Type} (f : β → α) (lt : α → α → Bool) (a0 a1 a2 a3 a4 : β) : own_run lt (f a0) (f a1) (f a2) (f a3) (f a4) = (f (own_run (fun i j => lt (f i) (f j)) a0 a1 a2 a3 a4).1, f (own_run (fun i j => lt (f i) (f j)) a0 a1 a2 a3 a4).2.1, f (own_run (fun i j => lt (f i) (f j)) a0 a1 a2 a3 a4).2.2.1, f (own_run (fun i j => lt (f i) (f j)) a0 a1 a2 a3 a4).2.2.2.1, f (own_run (fun i j => lt (f i) (f j)) a0 a1 a2 a3 a4).2.2.2.2) := by
  simp only [own_run, own_p1N f lt, own_p2N f lt, own_p3N f lt, own_p4N f lt, own_r4N f lt, own_r3N f lt, own_r2N f lt]
theorem own_low {x i y : Int32} (h : y = (x <<< (3 : Int32)) ||| i) (hi : 0 ≤ i.toInt ∧ i.toInt < 8) : y.toInt % 8 = i.toInt := by
  have h1 := c_ishl x 3 3 (by decide)
  rw [show ((3 : Int32) &&& 31) = 3 from by decide] at h1
  have h2 : (x <<< (3 : Int32)).toInt % 8 = 0 := by omega
  have h3 := c_or (x <<< (3 : Int32)) i 3 (by decide) 8 (by decide) h2 hi.1 hi.2
  rw [← h] at h3
  omega
theorem own_belowE (r0 r1 r2 r3 r4 q : Int32) : own_below r0 r1 r2 r3 r4 q = own_cnt (decide (r0 < q)) (decide (r1 < q)) (decide (r2 < q)) (decide (r3 < q)) (decide (r4 < q)) := by
  simp only [own_below, own_bl, own_cnt, own_c1, decide_eq_true_eq]
theorem own_main {p0 p1 p2 p3 p4 r0 r1 r2 r3 r4 : Int32} (e0 : r0 = (p0 <<< (3 : Int32)) ||| (0 : Int32)) (e1 : r1 = (p1 <<< (3 : Int32)) ||| (1 : Int32)) (e2 : r2 = (p2 <<< (3 : Int32)) ||| (2 : Int32)) (e3 : r3 = (p3 <<< (3 : Int32)) ||| (3 : Int32)) (e4 : r4 = (p4 <<< (3 : Int32)) ||| (4 : Int32)) {t1 t2 t3 t4}
    (h1 : t1 = own_p1 (own_lt [r0, r1, r2, r3, r4]) (0 : Int32) (1 : Int32)) (h2 : t2 = own_p2 (own_lt [r0, r1, r2, r3, r4]) t1.1 t1.2 (2 : Int32)) (h3 : t3 = own_p3 (own_lt [r0, r1, r2, r3, r4]) t2.1 t2.2.1 t2.2.2 (3 : Int32)) (h4 : t4 = own_p4 (own_lt [r0, r1, r2, r3, r4]) t3.1 t3.2.1 t3.2.2.1 t3.2.2.2 (4 : Int32)) :
    own_at r0 r1 r2 r3 r4 (own_rk [r0, r1, r2, r3, r4] t4.1) 0 = 1 ∧ ∀ u4, u4 = own_r4 (own_lt [r0, r1, r2, r3, r4]) t4.1 t4.2.1 t4.2.2.1 t4.2.2.2.1 t4.2.2.2.2 → own_at r0 r1 r2 r3 r4 (own_rk [r0, r1, r2, r3, r4] u4.1) 1 = 1 ∧ ∀ u3, u3 = own_r3 (own_lt [r0, r1, r2, r3, r4]) u4.1 u4.2.1 u4.2.2.1 u4.2.2.2 → own_at r0 r1 r2 r3 r4 (own_rk [r0, r1, r2, r3, r4] u3.1) 2 = 1 ∧ ∀ u2, u2 = own_r2 (own_lt [r0, r1, r2, r3, r4]) u3.1 u3.2.1 u3.2.2 → own_at r0 r1 r2 r3 r4 (own_rk [r0, r1, r2, r3, r4] u2.1) 3 = 1 ∧ own_at r0 r1 r2 r3 r4 (own_rk [r0, r1, r2, r3, r4] u2.2) 4 = 1 := by
  have d0 := own_low e0 (by decide); have d1 := own_low e1 (by decide); have d2 := own_low e2 (by decide); have d3 := own_low e3 (by decide); have d4 := own_low e4 (by decide)
  have z0 : (0 : Int32).toInt = 0 := rfl
  have z1 : (1 : Int32).toInt = 1 := rfl
  have z2 : (2 : Int32).toInt = 2 := rfl
  have z3 : (3 : Int32).toInt = 3 := rfl
  have z4 : (4 : Int32).toInt = 4 := rfl
  obtain ⟨r, hr⟩ := own_rank (fun i : Fin 5 => (own_rk [r0, r1, r2, r3, r4] (own_vec (0 : Int32) 1 2 3 4 i.val)).toInt)
  have hv := own_vecs (fun a b i j => own_lt [r0, r1, r2, r3, r4] a b = Nat.blt i j) (0 : Int32) 1 2 3 4 (fun i => own_vec (0 : Int32) 1 2 3 4 i.val) ⟨rfl, rfl, rfl, rfl, rfl⟩ (r 0).val (r 1).val (r 2).val (r 3).val (r 4).val (fun i => (r i).val) ⟨rfl, rfl, rfl, rfl, rfl⟩ (fun i j => by
    rw [own_lt, Bool.eq_iff_iff, decide_eq_true_iff, Nat.blt_eq, Int32.lt_iff_toInt_lt]; exact hr i j)
  have e : (fun i j => own_lt [r0, r1, r2, r3, r4] (own_vec (0 : Int32) 1 2 3 4 i) (own_vec (0 : Int32) 1 2 3 4 j)) = (fun i j => Nat.blt (own_vec (r 0).val (r 1).val (r 2).val (r 3).val (r 4).val i) (own_vec (r 0).val (r 1).val (r 2).val (r 3).val (r 4).val j)) := by
    funext i j; exact hv i j
  have n := own_runN (own_vec (0 : Int32) 1 2 3 4) (own_lt [r0, r1, r2, r3, r4]) 0 1 2 3 4
  rw [e] at n
  have n' : own_run (own_lt [r0, r1, r2, r3, r4]) (0 : Int32) 1 2 3 4 = _ := n
  have dis : own_dist (r 0).val (r 1).val (r 2).val (r 3).val (r 4).val = true := by
    have ne : ∀ i j : Fin 5, (own_rk [r0, r1, r2, r3, r4] (own_vec (0 : Int32) 1 2 3 4 i.val)).toInt ≠ (own_rk [r0, r1, r2, r3, r4] (own_vec (0 : Int32) 1 2 3 4 j.val)).toInt → Nat.beq (r i).val (r j).val = false := fun i j h => by
      have q1 := hr i j; have q2 := hr j i
      simp only [Fin.lt_def] at q1 q2
      rw [Bool.eq_false_iff]
      intro q
      have := Nat.eq_of_beq_eq_true q
      omega
    have f01 := ne 0 1 (by show r0.toInt ≠ r1.toInt; omega); have f02 := ne 0 2 (by show r0.toInt ≠ r2.toInt; omega); have f03 := ne 0 3 (by show r0.toInt ≠ r3.toInt; omega); have f04 := ne 0 4 (by show r0.toInt ≠ r4.toInt; omega)
    have f12 := ne 1 2 (by show r1.toInt ≠ r2.toInt; omega); have f13 := ne 1 3 (by show r1.toInt ≠ r3.toInt; omega); have f14 := ne 1 4 (by show r1.toInt ≠ r4.toInt; omega)
    have f23 := ne 2 3 (by show r2.toInt ≠ r3.toInt; omega); have f24 := ne 2 4 (by show r2.toInt ≠ r4.toInt; omega); have f34 := ne 3 4 (by show r3.toInt ≠ r4.toInt; omega)
    simp only [own_dist, f01, f02, f03, f04, f12, f13, f14, f23, f24, f34]; rfl
  have c := own_chk_all (r 0) (r 1) (r 2) (r 3) (r 4)
  rw [dis] at c
  simp only [own_chk, Bool.not_true, Bool.false_or, Bool.and_eq_true, beq_iff_eq] at c
  have pos : ∀ (o : Nat) (k : Int32), own_pos (own_vec (r 0).val (r 1).val (r 2).val (r 3).val (r 4).val) o = k → own_at r0 r1 r2 r3 r4 (own_rk [r0, r1, r2, r3, r4] (own_vec (0 : Int32) 1 2 3 4 o)) k = 1 := fun o k h => by
    rw [own_at, if_pos]
    rw [own_belowE, ← h]
    have g0 := hv 0 o; have g1 := hv 1 o; have g2 := hv 2 o; have g3 := hv 3 o; have g4 := hv 4 o
    simp only [own_pos, ← g0, ← g1, ← g2, ← g3, ← g4]
    rfl
  have key : ∀ u4 u3 u2, u4 = own_r4 (own_lt [r0, r1, r2, r3, r4]) t4.1 t4.2.1 t4.2.2.1 t4.2.2.2.1 t4.2.2.2.2 → u3 = own_r3 (own_lt [r0, r1, r2, r3, r4]) u4.1 u4.2.1 u4.2.2.1 u4.2.2.2 → u2 = own_r2 (own_lt [r0, r1, r2, r3, r4]) u3.1 u3.2.1 u3.2.2 → own_at r0 r1 r2 r3 r4 (own_rk [r0, r1, r2, r3, r4] t4.1) 0 = 1 ∧ own_at r0 r1 r2 r3 r4 (own_rk [r0, r1, r2, r3, r4] u4.1) 1 = 1 ∧ own_at r0 r1 r2 r3 r4 (own_rk [r0, r1, r2, r3, r4] u3.1) 2 = 1 ∧ own_at r0 r1 r2 r3 r4 (own_rk [r0, r1, r2, r3, r4] u2.1) 3 = 1 ∧ own_at r0 r1 r2 r3 r4 (own_rk [r0, r1, r2, r3, r4] u2.2) 4 = 1 := fun u4 u3 u2 g4 g3 g2 => by
    have w : own_run (own_lt [r0, r1, r2, r3, r4]) (0 : Int32) 1 2 3 4 = (t4.1, u4.1, u3.1, u2.1, u2.2) := by simp only [own_run, ← h1, ← h2, ← h3, ← h4, ← g4, ← g3, ← g2]
    rw [n'] at w
    simp only [Prod.mk.injEq] at w
    obtain ⟨w0, w1, w2, w3, w4⟩ := w
    rw [← w0, ← w1, ← w2, ← w3, ← w4]
    exact ⟨pos _ _ c.1.1.1.1, pos _ _ c.1.1.1.2, pos _ _ c.1.1.2, pos _ _ c.1.2, pos _ _ c.2⟩
  exact ⟨(key _ _ _ rfl rfl rfl).1, fun u4 g4 => ⟨(key u4 _ _ g4 rfl rfl).2.1, fun u3 g3 => ⟨(key u4 u3 _ g4 g3 rfl).2.2.1, fun u2 g2 => (key u4 u3 u2 g4 g3 g2).2.2.2⟩⟩⟩

theorem pn0 : plainName "com/example/precedence/precedence/IntHeapPollPinLaw" = true := by first | (simp [plainName, overriddenIn]; done) | decide +kernel
theorem ef0 (m : MethodId) (x0 : Int32) (x1 : Int32) (x2 : Int32) (x3 : Int32) (x4 : Int32) : entryFrame m #[(.int x0), (.int x1), (.int x2), (.int x3), (.int x4)] maxLocals = mkF m 0 #[.val (.int x0), .val (.int x1), .val (.int x2), .val (.int x3), .val (.int x4), .unset, .unset, .unset, .unset, .unset, .unset, .unset, .unset] [] := by first | (simp [entryFrame, mkF, argsToLocals, Value.category, maxLocals]; done) | rfl
theorem pd1 : parseMethodDescriptor "([I)V" = some ⟨[(.array .int)], none⟩ := by decide +kernel
theorem pd3 : parseMethodDescriptor "(I)V" = some ⟨[.int], none⟩ := by decide +kernel
theorem pd4 : parseMethodDescriptor "()I" = some ⟨[], some .int⟩ := by decide +kernel
theorem pd5 : parseMethodDescriptor "([III)Z" = some ⟨[(.array .int), .int, .int], some .boolean⟩ := by decide +kernel
theorem pd7 : parseMethodDescriptor "()Z" = some ⟨[], some .boolean⟩ := by decide +kernel
theorem own_ki_5 : Int32.ofInt (5) = (5 : Int32) := by decide
theorem own_sishl_3 (x : Int32) : x <<< ((3 : Int32) &&& 31) = x <<< (3 : Int32) := by rw [show ((3 : Int32) &&& 31) = (3 : Int32) from by decide]
set_option maxRecDepth 65536 in
set_option maxHeartbeats 40000000 in
theorem own_law (l : Launch) (Z : State) (a0 : Array Value) (hw : ∀ d ∈ tables_1, d.before a0 Z = true) (ws : List Jvm.Cond) (p0 : Int32) (p1 : Int32) (p2 : Int32) (p3 : Int32) (p4 : Int32)  (h0 : Heap) (n0 : Nat) (Z_ : n0 ≤ h0.size)  :
    Met l x code maxLocals ret ws room_1 Z n0 #[(.int p0), (.int p1), (.int p2), (.int p3), (.int p4)] h0 (fun v h => v = some (.int 1)) := by
  refine own_met pn0 (fun m => ef0 m p0 p1 p2 p3 p4) ?_
  intro p e s m below meth c C0
  have C : Cx p s m meth c Z code 13 (some .boolean) "com/example/precedence/precedence/IntHeapPollPinLaw" "law" := C0
  refine own_iconst (pc' := 1) (v := (5 : Int32)) C at_0 own_ki_5 rfl ?_
  refine own_newI (pc' := 3) (len := 5) (cap := 5) C at_1 rfl rfl (hw _ (List.mem_of_getElem? (i := 0) rfl)) (by decide) rfl (by decide) (by decide) (by decide) (by decide) rfl ?_
  intro h1 b1 g1 X1 A_b1
  have g_b1 : n0 ≤ b1 := g1 ▸ Z_
  replace Z_ := Nat.le_trans Z_ X1.1
  replace A_b1 : AI Z h1 b1 .int [(0 : Int32), (0 : Int32), (0 : Int32), (0 : Int32), (0 : Int32)] := A_b1
  refine own_astore (pc' := 5) (Ls' := #[.val (.int p0), .val (.int p1), .val (.int p2), .val (.int p3), .val (.int p4), .val (.ref b1), .unset, .unset, .unset, .unset, .unset, .unset, .unset]) C at_3 rfl rfl rfl ?_
  refine own_aload (pc' := 7) C at_5 rfl rfl rfl ?_
  refine own_iconst (pc' := 8) (v := (0 : Int32)) C at_7 own_ki_0 rfl ?_
  refine own_iloadN (pc' := 9) C at_8 rfl rfl ?_
  refine own_iconst (pc' := 10) (v := (3 : Int32)) C at_9 own_ki_3 rfl ?_
  refine own_ishl (pc' := 11) (v := (p0 <<< (3 : Int32))) C at_10 (own_sishl_3 _) rfl ?_
  refine own_iconst (pc' := 12) (v := (0 : Int32)) C at_11 own_ki_0 rfl ?_
  refine own_ior (pc' := 13) C at_12 rfl rfl ?_
  obtain ⟨y13, hy13⟩ : ∃ z : Int32, z = ((p0 <<< (3 : Int32)) ||| (0 : Int32)) := ⟨_, rfl⟩
  refine own_iastore (pc' := 14) (i := 0) (ys := [y13, (0 : Int32), (0 : Int32), (0 : Int32), (0 : Int32)]) C at_13 A_b1 (by decide) rfl (Nat.le_of_ble_eq_true rfl) (by rw [hy13]; rfl) g_b1 rfl ?_
  intro h2 W2 A2_
  replace A_b1 := A2_
  replace Z_ : n0 ≤ _ := Nat.le_trans Z_ (Nat.le_of_eq W2.size.symm)
  refine own_aload (pc' := 16) C at_14 rfl rfl rfl ?_
  refine own_iconst (pc' := 17) (v := (1 : Int32)) C at_16 own_ki_1 rfl ?_
  refine own_iloadN (pc' := 18) C at_17 rfl rfl ?_
  refine own_iconst (pc' := 19) (v := (3 : Int32)) C at_18 own_ki_3 rfl ?_
  refine own_ishl (pc' := 20) (v := (p1 <<< (3 : Int32))) C at_19 (own_sishl_3 _) rfl ?_
  refine own_iconst (pc' := 21) (v := (1 : Int32)) C at_20 own_ki_1 rfl ?_
  refine own_ior (pc' := 22) C at_21 rfl rfl ?_
  obtain ⟨y22, hy22⟩ : ∃ z : Int32, z = ((p1 <<< (3 : Int32)) ||| (1 : Int32)) := ⟨_, rfl⟩
  refine own_iastore (pc' := 23) (i := 1) (ys := [y13, y22, (0 : Int32), (0 : Int32), (0 : Int32)]) C at_22 A_b1 (by decide) rfl (Nat.le_of_ble_eq_true rfl) (by rw [hy22]; rfl) g_b1 rfl ?_
  intro h3 W3 A3_
  replace A_b1 := A3_
  replace Z_ : n0 ≤ _ := Nat.le_trans Z_ (Nat.le_of_eq W3.size.symm)
  refine own_aload (pc' := 25) C at_23 rfl rfl rfl ?_
  refine own_iconst (pc' := 26) (v := (2 : Int32)) C at_25 own_ki_2 rfl ?_
  refine own_iloadN (pc' := 27) C at_26 rfl rfl ?_
  refine own_iconst (pc' := 28) (v := (3 : Int32)) C at_27 own_ki_3 rfl ?_
  refine own_ishl (pc' := 29) (v := (p2 <<< (3 : Int32))) C at_28 (own_sishl_3 _) rfl ?_
  refine own_iconst (pc' := 30) (v := (2 : Int32)) C at_29 own_ki_2 rfl ?_
  refine own_ior (pc' := 31) C at_30 rfl rfl ?_
  obtain ⟨y31, hy31⟩ : ∃ z : Int32, z = ((p2 <<< (3 : Int32)) ||| (2 : Int32)) := ⟨_, rfl⟩
  refine own_iastore (pc' := 32) (i := 2) (ys := [y13, y22, y31, (0 : Int32), (0 : Int32)]) C at_31 A_b1 (by decide) rfl (Nat.le_of_ble_eq_true rfl) (by rw [hy31]; rfl) g_b1 rfl ?_
  intro h4 W4 A4_
  replace A_b1 := A4_
  replace Z_ : n0 ≤ _ := Nat.le_trans Z_ (Nat.le_of_eq W4.size.symm)
  refine own_aload (pc' := 34) C at_32 rfl rfl rfl ?_
  refine own_iconst (pc' := 35) (v := (3 : Int32)) C at_34 own_ki_3 rfl ?_
  refine own_iloadN (pc' := 36) C at_35 rfl rfl ?_
  refine own_iconst (pc' := 37) (v := (3 : Int32)) C at_36 own_ki_3 rfl ?_
  refine own_ishl (pc' := 38) (v := (p3 <<< (3 : Int32))) C at_37 (own_sishl_3 _) rfl ?_
  refine own_iconst (pc' := 39) (v := (3 : Int32)) C at_38 own_ki_3 rfl ?_
  refine own_ior (pc' := 40) C at_39 rfl rfl ?_
  obtain ⟨y40, hy40⟩ : ∃ z : Int32, z = ((p3 <<< (3 : Int32)) ||| (3 : Int32)) := ⟨_, rfl⟩
  refine own_iastore (pc' := 41) (i := 3) (ys := [y13, y22, y31, y40, (0 : Int32)]) C at_40 A_b1 (by decide) rfl (Nat.le_of_ble_eq_true rfl) (by rw [hy40]; rfl) g_b1 rfl ?_
  intro h5 W5 A5_
  replace A_b1 := A5_
  replace Z_ : n0 ≤ _ := Nat.le_trans Z_ (Nat.le_of_eq W5.size.symm)
  refine own_aload (pc' := 43) C at_41 rfl rfl rfl ?_
  refine own_iconst (pc' := 44) (v := (4 : Int32)) C at_43 own_ki_4 rfl ?_
  refine own_iload (pc' := 46) C at_44 rfl rfl ?_
  refine own_iconst (pc' := 47) (v := (3 : Int32)) C at_46 own_ki_3 rfl ?_
  refine own_ishl (pc' := 48) (v := (p4 <<< (3 : Int32))) C at_47 (own_sishl_3 _) rfl ?_
  refine own_iconst (pc' := 49) (v := (4 : Int32)) C at_48 own_ki_4 rfl ?_
  refine own_ior (pc' := 50) C at_49 rfl rfl ?_
  obtain ⟨y50, hy50⟩ : ∃ z : Int32, z = ((p4 <<< (3 : Int32)) ||| (4 : Int32)) := ⟨_, rfl⟩
  refine own_iastore (pc' := 51) (i := 4) (ys := [y13, y22, y31, y40, y50]) C at_50 A_b1 (by decide) rfl (Nat.le_of_ble_eq_true rfl) (by rw [hy50]; rfl) g_b1 rfl ?_
  intro h6 W6 A6_
  replace A_b1 := A6_
  replace Z_ : n0 ≤ _ := Nat.le_trans Z_ (Nat.le_of_eq W6.size.symm)
  refine own_new (pc' := 54) C at_51 (hw _ (List.mem_of_getElem? (i := 1) rfl)) (hw _ (List.mem_of_getElem? (i := 2) rfl)) (hw _ (List.mem_of_getElem? (i := 3) rfl)) (by decide) (by decide) rfl ?_
  intro h7 b7 g7 X7 E_b7 D7
  have ne_b1_b7 : b1 ≠ b7 := Nat.ne_of_lt (g7 ▸ A_b1.lt)
  replace A_b1 := A_b1.ext X7
  have g_b7 : n0 ≤ b7 := g7 ▸ Z_
  replace Z_ := Nat.le_trans Z_ X7.1
  have F_b7_rank : Fld Z h7 b7 "com/example/precedence/precedence/IntHeap" "rank" "[I" .null := D7 (Or.inr (hw _ (List.mem_of_getElem? (i := 11) rfl))) (ty := (.array .int)) (by decide)
  have F_b7_heap : Fld Z h7 b7 "com/example/precedence/precedence/IntHeap" "heap" "[I" .null := D7 (Or.inr (hw _ (List.mem_of_getElem? (i := 13) rfl))) (ty := (.array .int)) (by decide)
  have F_b7_size : Fld Z h7 b7 "com/example/precedence/precedence/IntHeap" "size" "I" (.int (0 : Int32)) := D7 (Or.inl (hw _ (List.mem_of_getElem? (i := 20) rfl))) (ty := .int) (by decide)
  refine own_dup (pc' := 55) C at_54 rfl rfl ?_
  refine own_aload (pc' := 57) C at_55 rfl rfl rfl ?_
  refine own_callI (pc' := 60) (wL := 1) (a := b7) (argsL := [(.ref b1)]) (rest := [(.ref b7)]) C (own_newH l Z a0 hw b7 b1 y13 y22 y31 y40 y50 h7 n0 Z_ E_b7 F_b7_rank F_b7_heap F_b7_size g_b7 A_b1 (Ne.symm ne_b1_b7)) at_57 (hw _ (List.mem_of_getElem? (i := 4) rfl)) (hw _ (List.mem_of_getElem? (i := 5) rfl)) (hw _ (List.mem_of_getElem? (i := 3) rfl)) (hw _ (List.mem_of_getElem? (i := 6) rfl)) (by decide) (by decide) (by decide) rfl (lenOf pd1 rfl) rfl rfl (Nat.le_of_eq rfl) (by decide) (by decide) rfl ?_
  rintro _ h8 ⟨rfl, K8, q_8, sz8, F8_rank, F8_heap, F8_size, A8_q⟩
  have ne_b1_q_8 : b1 ≠ q_8 := Nat.ne_of_lt (Nat.lt_of_lt_of_le A_b1.lt sz8)
  have ne_b7_q_8 : b7 ≠ q_8 := Nat.ne_of_lt (Nat.lt_of_lt_of_le E_b7.lt sz8)
  have g_q_8 : n0 ≤ q_8 := Nat.le_trans Z_ sz8
  replace A_b1 := A_b1.keep K8 (ninS ne_b1_b7 nin0)
  replace E_b7 := E_b7.keep K8
  replace Z_ := Nat.le_trans Z_ K8.1
  replace F_b7_rank := F8_rank
  replace F_b7_heap := F8_heap
  replace F_b7_size := F8_size
  show Wp p l e _ s m _ below meth c n0 _ h8 (((0 + 1) + 1) + 1) (((0 + 5) + 3) + 5) (mkF m 60 #[.val (.int p0), .val (.int p1), .val (.int p2), .val (.int p3), .val (.int p4), .val (.ref b1), .unset, .unset, .unset, .unset, .unset, .unset, .unset] [(.ref b7)])
  refine own_astore (pc' := 62) (Ls' := #[.val (.int p0), .val (.int p1), .val (.int p2), .val (.int p3), .val (.int p4), .val (.ref b1), .val (.ref b7), .unset, .unset, .unset, .unset, .unset, .unset]) C at_60 rfl rfl rfl ?_
  refine own_aload (pc' := 64) C at_62 rfl rfl rfl ?_
  refine own_iconst (pc' := 65) (v := (0 : Int32)) C at_64 own_ki_0 rfl ?_
  refine own_callV (pc' := 68) (wL := 0) (a := b7) (argsL := [(.int (0 : Int32))]) (rest := []) C (own_add0 l Z a0 hw b7 (0 : Int32) b1 q_8 y13 y22 y31 y40 y50 (0 : Int32) (0 : Int32) (0 : Int32) (0 : Int32) (0 : Int32) h8 n0 Z_ E_b7 F_b7_rank F_b7_heap F_b7_size g_b7 A_b1 A8_q g_q_8 (Ne.symm ne_b1_b7) ne_b7_q_8 ne_b1_q_8 (⟨by decide, by decide⟩ : own_in (0 : Int32))) E_b7 at_65 (hw _ (List.mem_of_getElem? (i := 14) rfl)) (hw _ (List.mem_of_getElem? (i := 15) rfl)) (hw _ (List.mem_of_getElem? (i := 17) rfl)) (hw _ (List.mem_of_getElem? (i := 16) rfl)) (hw _ (List.mem_of_getElem? (i := 3) rfl)) (hw _ (List.mem_of_getElem? (i := 18) rfl)) (by decide) (by decide) (by decide) rfl (lenOf pd3 rfl) rfl rfl (Nat.le_of_eq rfl) (by decide) (by decide) rfl ?_
  rintro _ h9 ⟨rfl, K9, F9_rank, F9_heap, F9_size, Q9_⟩
  replace A_b1 := A_b1.keep K9 (ninS ne_b1_b7 (ninS ne_b1_q_8 nin0))
  replace E_b7 := E_b7.keep K9
  replace Z_ := Nat.le_trans Z_ K9.1
  replace F_b7_rank := F9_rank
  replace F_b7_heap := F9_heap
  replace F_b7_size := F9_size
  replace A8_q := Q9_
  show Wp p l e _ s m _ below meth c n0 _ h9 (((0 + 1) + 1) + 1) (((0 + 5) + 3) + 5) (mkF m 68 #[.val (.int p0), .val (.int p1), .val (.int p2), .val (.int p3), .val (.int p4), .val (.ref b1), .val (.ref b7), .unset, .unset, .unset, .unset, .unset, .unset] [])
  refine own_aload (pc' := 70) C at_68 rfl rfl rfl ?_
  refine own_iconst (pc' := 71) (v := (1 : Int32)) C at_70 own_ki_1 rfl ?_
  refine own_callV (pc' := 74) (wL := 0) (a := b7) (argsL := [(.int (1 : Int32))]) (rest := []) C (own_add1 l Z a0 hw b7 (1 : Int32) b1 q_8 y13 y22 y31 y40 y50 (0 : Int32) (0 : Int32) (0 : Int32) (0 : Int32) (0 : Int32) h9 n0 Z_ E_b7 F_b7_rank F_b7_heap F_b7_size g_b7 A_b1 A8_q g_q_8 (Ne.symm ne_b1_b7) ne_b7_q_8 ne_b1_q_8 (⟨by decide, by decide⟩ : own_in (0 : Int32)) (⟨by decide, by decide⟩ : own_in (1 : Int32))) E_b7 at_71 (hw _ (List.mem_of_getElem? (i := 14) rfl)) (hw _ (List.mem_of_getElem? (i := 15) rfl)) (hw _ (List.mem_of_getElem? (i := 17) rfl)) (hw _ (List.mem_of_getElem? (i := 16) rfl)) (hw _ (List.mem_of_getElem? (i := 3) rfl)) (hw _ (List.mem_of_getElem? (i := 18) rfl)) (by decide) (by decide) (by decide) rfl (lenOf pd3 rfl) rfl rfl (Nat.le_of_eq rfl) (by decide) (by decide) rfl ?_
  rintro _ h10 ⟨rfl, K10, F10_rank, F10_heap, F10_size, Q10_⟩
  replace A_b1 := A_b1.keep K10 (ninS ne_b1_b7 (ninS ne_b1_q_8 nin0))
  replace E_b7 := E_b7.keep K10
  replace Z_ := Nat.le_trans Z_ K10.1
  replace F_b7_rank := F10_rank
  replace F_b7_heap := F10_heap
  replace F_b7_size := F10_size
  replace A8_q := Q10_
  have PT1 := own_p1P (own_lt [y13, y22, y31, y40, y50]) own_in (⟨by decide, by decide⟩ : own_in (0 : Int32)) (⟨by decide, by decide⟩ : own_in (1 : Int32))
  obtain ⟨T1, hT1⟩ : ∃ z, z = own_p1 (own_lt [y13, y22, y31, y40, y50]) (0 : Int32) (1 : Int32) := ⟨_, rfl⟩
  rw [← hT1] at A8_q PT1
  show Wp p l e _ s m _ below meth c n0 _ h10 (((0 + 1) + 1) + 1) (((0 + 5) + 3) + 5) (mkF m 74 #[.val (.int p0), .val (.int p1), .val (.int p2), .val (.int p3), .val (.int p4), .val (.ref b1), .val (.ref b7), .unset, .unset, .unset, .unset, .unset, .unset] [])
  refine own_aload (pc' := 76) C at_74 rfl rfl rfl ?_
  refine own_iconst (pc' := 77) (v := (2 : Int32)) C at_76 own_ki_2 rfl ?_
  refine own_callV (pc' := 80) (wL := 0) (a := b7) (argsL := [(.int (2 : Int32))]) (rest := []) C (own_add2 l Z a0 hw b7 (2 : Int32) b1 q_8 y13 y22 y31 y40 y50 T1.1 T1.2 (0 : Int32) (0 : Int32) (0 : Int32) h10 n0 Z_ E_b7 F_b7_rank F_b7_heap F_b7_size g_b7 A_b1 A8_q g_q_8 (Ne.symm ne_b1_b7) ne_b7_q_8 ne_b1_q_8 PT1.1 PT1.2 (⟨by decide, by decide⟩ : own_in (2 : Int32))) E_b7 at_77 (hw _ (List.mem_of_getElem? (i := 14) rfl)) (hw _ (List.mem_of_getElem? (i := 15) rfl)) (hw _ (List.mem_of_getElem? (i := 17) rfl)) (hw _ (List.mem_of_getElem? (i := 16) rfl)) (hw _ (List.mem_of_getElem? (i := 3) rfl)) (hw _ (List.mem_of_getElem? (i := 18) rfl)) (by decide) (by decide) (by decide) rfl (lenOf pd3 rfl) rfl rfl (Nat.le_of_eq rfl) (by decide) (by decide) rfl ?_
  rintro _ h11 ⟨rfl, K11, F11_rank, F11_heap, F11_size, Q11_⟩
  replace A_b1 := A_b1.keep K11 (ninS ne_b1_b7 (ninS ne_b1_q_8 nin0))
  replace E_b7 := E_b7.keep K11
  replace Z_ := Nat.le_trans Z_ K11.1
  replace F_b7_rank := F11_rank
  replace F_b7_heap := F11_heap
  replace F_b7_size := F11_size
  replace A8_q := Q11_
  have PT2 := own_p2P (own_lt [y13, y22, y31, y40, y50]) own_in PT1.1 PT1.2 (⟨by decide, by decide⟩ : own_in (2 : Int32))
  obtain ⟨T2, hT2⟩ : ∃ z, z = own_p2 (own_lt [y13, y22, y31, y40, y50]) T1.1 T1.2 (2 : Int32) := ⟨_, rfl⟩
  rw [← hT2] at A8_q PT2
  show Wp p l e _ s m _ below meth c n0 _ h11 (((0 + 1) + 1) + 1) (((0 + 5) + 3) + 5) (mkF m 80 #[.val (.int p0), .val (.int p1), .val (.int p2), .val (.int p3), .val (.int p4), .val (.ref b1), .val (.ref b7), .unset, .unset, .unset, .unset, .unset, .unset] [])
  refine own_aload (pc' := 82) C at_80 rfl rfl rfl ?_
  refine own_iconst (pc' := 83) (v := (3 : Int32)) C at_82 own_ki_3 rfl ?_
  refine own_callV (pc' := 86) (wL := 0) (a := b7) (argsL := [(.int (3 : Int32))]) (rest := []) C (own_add3 l Z a0 hw b7 (3 : Int32) b1 q_8 y13 y22 y31 y40 y50 T2.1 T2.2.1 T2.2.2 (0 : Int32) (0 : Int32) h11 n0 Z_ E_b7 F_b7_rank F_b7_heap F_b7_size g_b7 A_b1 A8_q g_q_8 (Ne.symm ne_b1_b7) ne_b7_q_8 ne_b1_q_8 PT2.1 PT2.2.1 PT2.2.2 (⟨by decide, by decide⟩ : own_in (3 : Int32))) E_b7 at_83 (hw _ (List.mem_of_getElem? (i := 14) rfl)) (hw _ (List.mem_of_getElem? (i := 15) rfl)) (hw _ (List.mem_of_getElem? (i := 17) rfl)) (hw _ (List.mem_of_getElem? (i := 16) rfl)) (hw _ (List.mem_of_getElem? (i := 3) rfl)) (hw _ (List.mem_of_getElem? (i := 18) rfl)) (by decide) (by decide) (by decide) rfl (lenOf pd3 rfl) rfl rfl (Nat.le_of_eq rfl) (by decide) (by decide) rfl ?_
  rintro _ h12 ⟨rfl, K12, F12_rank, F12_heap, F12_size, Q12_⟩
  replace A_b1 := A_b1.keep K12 (ninS ne_b1_b7 (ninS ne_b1_q_8 nin0))
  replace E_b7 := E_b7.keep K12
  replace Z_ := Nat.le_trans Z_ K12.1
  replace F_b7_rank := F12_rank
  replace F_b7_heap := F12_heap
  replace F_b7_size := F12_size
  replace A8_q := Q12_
  have PT3 := own_p3P (own_lt [y13, y22, y31, y40, y50]) own_in PT2.1 PT2.2.1 PT2.2.2 (⟨by decide, by decide⟩ : own_in (3 : Int32))
  obtain ⟨T3, hT3⟩ : ∃ z, z = own_p3 (own_lt [y13, y22, y31, y40, y50]) T2.1 T2.2.1 T2.2.2 (3 : Int32) := ⟨_, rfl⟩
  rw [← hT3] at A8_q PT3
  show Wp p l e _ s m _ below meth c n0 _ h12 (((0 + 1) + 1) + 1) (((0 + 5) + 3) + 5) (mkF m 86 #[.val (.int p0), .val (.int p1), .val (.int p2), .val (.int p3), .val (.int p4), .val (.ref b1), .val (.ref b7), .unset, .unset, .unset, .unset, .unset, .unset] [])
  refine own_aload (pc' := 88) C at_86 rfl rfl rfl ?_
  refine own_iconst (pc' := 89) (v := (4 : Int32)) C at_88 own_ki_4 rfl ?_
  refine own_callV (pc' := 92) (wL := 0) (a := b7) (argsL := [(.int (4 : Int32))]) (rest := []) C (own_add4 l Z a0 hw b7 (4 : Int32) b1 q_8 y13 y22 y31 y40 y50 T3.1 T3.2.1 T3.2.2.1 T3.2.2.2 (0 : Int32) h12 n0 Z_ E_b7 F_b7_rank F_b7_heap F_b7_size g_b7 A_b1 A8_q g_q_8 (Ne.symm ne_b1_b7) ne_b7_q_8 ne_b1_q_8 PT3.1 PT3.2.1 PT3.2.2.1 PT3.2.2.2 (⟨by decide, by decide⟩ : own_in (4 : Int32))) E_b7 at_89 (hw _ (List.mem_of_getElem? (i := 14) rfl)) (hw _ (List.mem_of_getElem? (i := 15) rfl)) (hw _ (List.mem_of_getElem? (i := 17) rfl)) (hw _ (List.mem_of_getElem? (i := 16) rfl)) (hw _ (List.mem_of_getElem? (i := 3) rfl)) (hw _ (List.mem_of_getElem? (i := 18) rfl)) (by decide) (by decide) (by decide) rfl (lenOf pd3 rfl) rfl rfl (Nat.le_of_eq rfl) (by decide) (by decide) rfl ?_
  rintro _ h13 ⟨rfl, K13, F13_rank, F13_heap, F13_size, Q13_⟩
  replace A_b1 := A_b1.keep K13 (ninS ne_b1_b7 (ninS ne_b1_q_8 nin0))
  replace E_b7 := E_b7.keep K13
  replace Z_ := Nat.le_trans Z_ K13.1
  replace F_b7_rank := F13_rank
  replace F_b7_heap := F13_heap
  replace F_b7_size := F13_size
  replace A8_q := Q13_
  have PT4 := own_p4P (own_lt [y13, y22, y31, y40, y50]) own_in PT3.1 PT3.2.1 PT3.2.2.1 PT3.2.2.2 (⟨by decide, by decide⟩ : own_in (4 : Int32))
  obtain ⟨T4, hT4⟩ : ∃ z, z = own_p4 (own_lt [y13, y22, y31, y40, y50]) T3.1 T3.2.1 T3.2.2.1 T3.2.2.2 (4 : Int32) := ⟨_, rfl⟩
  rw [← hT4] at A8_q PT4
  show Wp p l e _ s m _ below meth c n0 _ h13 (((0 + 1) + 1) + 1) (((0 + 5) + 3) + 5) (mkF m 92 #[.val (.int p0), .val (.int p1), .val (.int p2), .val (.int p3), .val (.int p4), .val (.ref b1), .val (.ref b7), .unset, .unset, .unset, .unset, .unset, .unset] [])
  refine own_aload (pc' := 94) C at_92 rfl rfl rfl ?_
  refine own_callV (pc' := 97) (wL := 0) (a := b7) (argsL := []) (rest := []) C (own_poll4 l Z a0 hw b7  b1 q_8 y13 y22 y31 y40 y50 T4.1 T4.2.1 T4.2.2.1 T4.2.2.2.1 T4.2.2.2.2 h13 n0 Z_ E_b7 F_b7_rank F_b7_heap F_b7_size g_b7 A_b1 A8_q g_q_8 (Ne.symm ne_b1_b7) ne_b7_q_8 ne_b1_q_8 PT4.1 PT4.2.1 PT4.2.2.1 PT4.2.2.2.1 PT4.2.2.2.2) E_b7 at_94 (hw _ (List.mem_of_getElem? (i := 21) rfl)) (hw _ (List.mem_of_getElem? (i := 22) rfl)) (hw _ (List.mem_of_getElem? (i := 24) rfl)) (hw _ (List.mem_of_getElem? (i := 23) rfl)) (hw _ (List.mem_of_getElem? (i := 3) rfl)) (hw _ (List.mem_of_getElem? (i := 25) rfl)) (by decide) (by decide) (by decide) rfl (lenOf pd4 rfl) rfl rfl (Nat.le_of_eq rfl) (by decide) (by decide) rfl ?_
  rintro _ h14 ⟨rfl, K14, F14_rank, F14_heap, F14_size, Q14_⟩
  replace A_b1 := A_b1.keep K14 (ninS ne_b1_b7 (ninS ne_b1_q_8 nin0))
  replace E_b7 := E_b7.keep K14
  replace Z_ := Nat.le_trans Z_ K14.1
  replace F_b7_rank := F14_rank
  replace F_b7_heap := F14_heap
  replace F_b7_size := F14_size
  replace A8_q := Q14_
  have PU4 := own_r4P (own_lt [y13, y22, y31, y40, y50]) own_in PT4.2.1 PT4.2.2.1 PT4.2.2.2.1 PT4.2.2.2.2 (x0 := T4.1)
  obtain ⟨U4, hU4⟩ : ∃ z, z = own_r4 (own_lt [y13, y22, y31, y40, y50]) T4.1 T4.2.1 T4.2.2.1 T4.2.2.2.1 T4.2.2.2.2 := ⟨_, rfl⟩
  rw [← hU4] at A8_q PU4
  show Wp p l e _ s m _ below meth c n0 _ h14 (((0 + 1) + 1) + 1) (((0 + 5) + 3) + 5) (mkF m 97 #[.val (.int p0), .val (.int p1), .val (.int p2), .val (.int p3), .val (.int p4), .val (.ref b1), .val (.ref b7), .unset, .unset, .unset, .unset, .unset, .unset] [(.int T4.1)])
  refine own_istore (pc' := 99) (y := T4.1) (Ls' := #[.val (.int p0), .val (.int p1), .val (.int p2), .val (.int p3), .val (.int p4), .val (.ref b1), .val (.ref b7), .val (.int T4.1), .unset, .unset, .unset, .unset, .unset]) C at_97 rfl rfl rfl ?_
  refine own_aload (pc' := 101) C at_99 rfl rfl rfl ?_
  refine own_iload (pc' := 103) C at_101 rfl rfl ?_
  refine own_iconst (pc' := 104) (v := (0 : Int32)) C at_103 own_ki_0 rfl ?_
  refine own_callS (pc' := 107) (wL := 0) (argsL := [(.ref b1), (.int T4.1), (.int (0 : Int32))]) (rest := []) C (own_att l Z a0 hw b1 T4.1 (0 : Int32) y13 y22 y31 y40 y50 h14 n0 Z_ A_b1 PT4.1) at_104 (hw _ (List.mem_of_getElem? (i := 26) rfl)) (hw _ (List.mem_of_getElem? (i := 27) rfl)) (hw _ (List.mem_of_getElem? (i := 28) rfl)) (hw _ (List.mem_of_getElem? (i := 29) rfl)) (by decide) (by decide) (by decide) rfl (lenOf pd5 rfl) rfl rfl (Nat.le_of_eq rfl) (by decide) (by decide) rfl ?_
  rintro _ _ ⟨rfl, rfl⟩
  rw [show (own_at y13 y22 y31 y40 y50 (own_rk [y13, y22, y31, y40, y50] T4.1) (0 : Int32)) = 1 from (own_main hy13 hy22 hy31 hy40 hy50 hT1 hT2 hT3 hT4).1]
  show Wp p l e _ s m _ below meth c n0 _ h14 (((0 + 1) + 1) + 1) (((0 + 5) + 3) + 5) (mkF m 107 #[.val (.int p0), .val (.int p1), .val (.int p2), .val (.int p3), .val (.int p4), .val (.ref b1), .val (.ref b7), .val (.int T4.1), .unset, .unset, .unset, .unset, .unset] [(.int (1 : Int32))])
  refine own_istore (pc' := 109) (y := (1 : Int32)) (Ls' := #[.val (.int p0), .val (.int p1), .val (.int p2), .val (.int p3), .val (.int p4), .val (.ref b1), .val (.ref b7), .val (.int T4.1), .val (.int (1 : Int32)), .unset, .unset, .unset, .unset]) C at_107 rfl rfl rfl ?_
  refine own_aload (pc' := 111) C at_109 rfl rfl rfl ?_
  refine own_callV (pc' := 114) (wL := 0) (a := b7) (argsL := []) (rest := []) C (own_poll3 l Z a0 hw b7  b1 q_8 y13 y22 y31 y40 y50 U4.1 U4.2.1 U4.2.2.1 U4.2.2.2 T4.2.2.2.2 h14 n0 Z_ E_b7 F_b7_rank F_b7_heap F_b7_size g_b7 A_b1 A8_q g_q_8 (Ne.symm ne_b1_b7) ne_b7_q_8 ne_b1_q_8 PU4.1 PU4.2.1 PU4.2.2.1 PU4.2.2.2) E_b7 at_111 (hw _ (List.mem_of_getElem? (i := 21) rfl)) (hw _ (List.mem_of_getElem? (i := 22) rfl)) (hw _ (List.mem_of_getElem? (i := 24) rfl)) (hw _ (List.mem_of_getElem? (i := 23) rfl)) (hw _ (List.mem_of_getElem? (i := 3) rfl)) (hw _ (List.mem_of_getElem? (i := 25) rfl)) (by decide) (by decide) (by decide) rfl (lenOf pd4 rfl) rfl rfl (Nat.le_of_eq rfl) (by decide) (by decide) rfl ?_
  rintro _ h15 ⟨rfl, K15, F15_rank, F15_heap, F15_size, Q15_⟩
  replace A_b1 := A_b1.keep K15 (ninS ne_b1_b7 (ninS ne_b1_q_8 nin0))
  replace E_b7 := E_b7.keep K15
  replace Z_ := Nat.le_trans Z_ K15.1
  replace F_b7_rank := F15_rank
  replace F_b7_heap := F15_heap
  replace F_b7_size := F15_size
  replace A8_q := Q15_
  have PU3 := own_r3P (own_lt [y13, y22, y31, y40, y50]) own_in PU4.2.1 PU4.2.2.1 PU4.2.2.2 (x0 := U4.1)
  obtain ⟨U3, hU3⟩ : ∃ z, z = own_r3 (own_lt [y13, y22, y31, y40, y50]) U4.1 U4.2.1 U4.2.2.1 U4.2.2.2 := ⟨_, rfl⟩
  rw [← hU3] at A8_q PU3
  show Wp p l e _ s m _ below meth c n0 _ h15 (((0 + 1) + 1) + 1) (((0 + 5) + 3) + 5) (mkF m 114 #[.val (.int p0), .val (.int p1), .val (.int p2), .val (.int p3), .val (.int p4), .val (.ref b1), .val (.ref b7), .val (.int T4.1), .val (.int (1 : Int32)), .unset, .unset, .unset, .unset] [(.int U4.1)])
  refine own_istore (pc' := 116) (y := U4.1) (Ls' := #[.val (.int p0), .val (.int p1), .val (.int p2), .val (.int p3), .val (.int p4), .val (.ref b1), .val (.ref b7), .val (.int T4.1), .val (.int (1 : Int32)), .val (.int U4.1), .unset, .unset, .unset]) C at_114 rfl rfl rfl ?_
  refine own_iload (pc' := 118) C at_116 rfl rfl ?_
  refine own_if_eq (pt := 136) (pf := 121) C at_118 (by decide) (by decide) rfl (fun q => absurd q (by decide)) (fun _ => ?_)
  refine own_aload (pc' := 123) C at_121 rfl rfl rfl ?_
  refine own_iload (pc' := 125) C at_123 rfl rfl ?_
  refine own_iconst (pc' := 126) (v := (1 : Int32)) C at_125 own_ki_1 rfl ?_
  refine own_callS (pc' := 129) (wL := 0) (argsL := [(.ref b1), (.int U4.1), (.int (1 : Int32))]) (rest := []) C (own_att l Z a0 hw b1 U4.1 (1 : Int32) y13 y22 y31 y40 y50 h15 n0 Z_ A_b1 PU4.1) at_126 (hw _ (List.mem_of_getElem? (i := 26) rfl)) (hw _ (List.mem_of_getElem? (i := 27) rfl)) (hw _ (List.mem_of_getElem? (i := 28) rfl)) (hw _ (List.mem_of_getElem? (i := 29) rfl)) (by decide) (by decide) (by decide) rfl (lenOf pd5 rfl) rfl rfl (Nat.le_of_eq rfl) (by decide) (by decide) rfl ?_
  rintro _ _ ⟨rfl, rfl⟩
  rw [show (own_at y13 y22 y31 y40 y50 (own_rk [y13, y22, y31, y40, y50] U4.1) (1 : Int32)) = 1 from ((own_main hy13 hy22 hy31 hy40 hy50 hT1 hT2 hT3 hT4).2 U4 hU4).1]
  show Wp p l e _ s m _ below meth c n0 _ h15 (((0 + 1) + 1) + 1) (((0 + 5) + 3) + 5) (mkF m 129 #[.val (.int p0), .val (.int p1), .val (.int p2), .val (.int p3), .val (.int p4), .val (.ref b1), .val (.ref b7), .val (.int T4.1), .val (.int (1 : Int32)), .val (.int U4.1), .unset, .unset, .unset] [(.int (1 : Int32))])
  refine own_if_eq (pt := 136) (pf := 132) C at_129 (by decide) (by decide) rfl (fun q => absurd q (by decide)) (fun _ => ?_)
  refine own_iconst (pc' := 133) (v := (1 : Int32)) C at_132 own_ki_1 rfl ?_
  refine own_goto (pc' := 137) C at_133 (by decide) (by decide) ?_
  refine own_istore (pc' := 139) (y := (1 : Int32)) (Ls' := #[.val (.int p0), .val (.int p1), .val (.int p2), .val (.int p3), .val (.int p4), .val (.ref b1), .val (.ref b7), .val (.int T4.1), .val (.int (1 : Int32)), .val (.int U4.1), .unset, .unset, .unset]) C at_137 rfl rfl rfl ?_
  refine own_aload (pc' := 141) C at_139 rfl rfl rfl ?_
  refine own_callV (pc' := 144) (wL := 0) (a := b7) (argsL := []) (rest := []) C (own_poll2 l Z a0 hw b7  b1 q_8 y13 y22 y31 y40 y50 U3.1 U3.2.1 U3.2.2 U4.2.2.2 T4.2.2.2.2 h15 n0 Z_ E_b7 F_b7_rank F_b7_heap F_b7_size g_b7 A_b1 A8_q g_q_8 (Ne.symm ne_b1_b7) ne_b7_q_8 ne_b1_q_8 PU3.1 PU3.2.1 PU3.2.2) E_b7 at_141 (hw _ (List.mem_of_getElem? (i := 21) rfl)) (hw _ (List.mem_of_getElem? (i := 22) rfl)) (hw _ (List.mem_of_getElem? (i := 24) rfl)) (hw _ (List.mem_of_getElem? (i := 23) rfl)) (hw _ (List.mem_of_getElem? (i := 3) rfl)) (hw _ (List.mem_of_getElem? (i := 25) rfl)) (by decide) (by decide) (by decide) rfl (lenOf pd4 rfl) rfl rfl (Nat.le_of_eq rfl) (by decide) (by decide) rfl ?_
  rintro _ h16 ⟨rfl, K16, F16_rank, F16_heap, F16_size, Q16_⟩
  replace A_b1 := A_b1.keep K16 (ninS ne_b1_b7 (ninS ne_b1_q_8 nin0))
  replace E_b7 := E_b7.keep K16
  replace Z_ := Nat.le_trans Z_ K16.1
  replace F_b7_rank := F16_rank
  replace F_b7_heap := F16_heap
  replace F_b7_size := F16_size
  replace A8_q := Q16_
  have PU2 := own_r2P (own_lt [y13, y22, y31, y40, y50]) own_in PU3.2.1 PU3.2.2 (x0 := U3.1)
  obtain ⟨U2, hU2⟩ : ∃ z, z = own_r2 (own_lt [y13, y22, y31, y40, y50]) U3.1 U3.2.1 U3.2.2 := ⟨_, rfl⟩
  rw [← hU2] at A8_q PU2
  show Wp p l e _ s m _ below meth c n0 _ h16 (((0 + 1) + 1) + 1) (((0 + 5) + 3) + 5) (mkF m 144 #[.val (.int p0), .val (.int p1), .val (.int p2), .val (.int p3), .val (.int p4), .val (.ref b1), .val (.ref b7), .val (.int T4.1), .val (.int (1 : Int32)), .val (.int U4.1), .unset, .unset, .unset] [(.int U3.1)])
  refine own_istore (pc' := 146) (y := U3.1) (Ls' := #[.val (.int p0), .val (.int p1), .val (.int p2), .val (.int p3), .val (.int p4), .val (.ref b1), .val (.ref b7), .val (.int T4.1), .val (.int (1 : Int32)), .val (.int U4.1), .val (.int U3.1), .unset, .unset]) C at_144 rfl rfl rfl ?_
  refine own_iload (pc' := 148) C at_146 rfl rfl ?_
  refine own_if_eq (pt := 166) (pf := 151) C at_148 (by decide) (by decide) rfl (fun q => absurd q (by decide)) (fun _ => ?_)
  refine own_aload (pc' := 153) C at_151 rfl rfl rfl ?_
  refine own_iload (pc' := 155) C at_153 rfl rfl ?_
  refine own_iconst (pc' := 156) (v := (2 : Int32)) C at_155 own_ki_2 rfl ?_
  refine own_callS (pc' := 159) (wL := 0) (argsL := [(.ref b1), (.int U3.1), (.int (2 : Int32))]) (rest := []) C (own_att l Z a0 hw b1 U3.1 (2 : Int32) y13 y22 y31 y40 y50 h16 n0 Z_ A_b1 PU3.1) at_156 (hw _ (List.mem_of_getElem? (i := 26) rfl)) (hw _ (List.mem_of_getElem? (i := 27) rfl)) (hw _ (List.mem_of_getElem? (i := 28) rfl)) (hw _ (List.mem_of_getElem? (i := 29) rfl)) (by decide) (by decide) (by decide) rfl (lenOf pd5 rfl) rfl rfl (Nat.le_of_eq rfl) (by decide) (by decide) rfl ?_
  rintro _ _ ⟨rfl, rfl⟩
  rw [show (own_at y13 y22 y31 y40 y50 (own_rk [y13, y22, y31, y40, y50] U3.1) (2 : Int32)) = 1 from (((own_main hy13 hy22 hy31 hy40 hy50 hT1 hT2 hT3 hT4).2 U4 hU4).2 U3 hU3).1]
  show Wp p l e _ s m _ below meth c n0 _ h16 (((0 + 1) + 1) + 1) (((0 + 5) + 3) + 5) (mkF m 159 #[.val (.int p0), .val (.int p1), .val (.int p2), .val (.int p3), .val (.int p4), .val (.ref b1), .val (.ref b7), .val (.int T4.1), .val (.int (1 : Int32)), .val (.int U4.1), .val (.int U3.1), .unset, .unset] [(.int (1 : Int32))])
  refine own_if_eq (pt := 166) (pf := 162) C at_159 (by decide) (by decide) rfl (fun q => absurd q (by decide)) (fun _ => ?_)
  refine own_iconst (pc' := 163) (v := (1 : Int32)) C at_162 own_ki_1 rfl ?_
  refine own_goto (pc' := 167) C at_163 (by decide) (by decide) ?_
  refine own_istore (pc' := 169) (y := (1 : Int32)) (Ls' := #[.val (.int p0), .val (.int p1), .val (.int p2), .val (.int p3), .val (.int p4), .val (.ref b1), .val (.ref b7), .val (.int T4.1), .val (.int (1 : Int32)), .val (.int U4.1), .val (.int U3.1), .unset, .unset]) C at_167 rfl rfl rfl ?_
  refine own_aload (pc' := 171) C at_169 rfl rfl rfl ?_
  refine own_callV (pc' := 174) (wL := 0) (a := b7) (argsL := []) (rest := []) C (own_poll1 l Z a0 hw b7  b1 q_8 y13 y22 y31 y40 y50 U2.1 U2.2 U3.2.2 U4.2.2.2 T4.2.2.2.2 h16 n0 Z_ E_b7 F_b7_rank F_b7_heap F_b7_size g_b7 A_b1 A8_q g_q_8 (Ne.symm ne_b1_b7) ne_b7_q_8 ne_b1_q_8 PU2.1 PU2.2) E_b7 at_171 (hw _ (List.mem_of_getElem? (i := 21) rfl)) (hw _ (List.mem_of_getElem? (i := 22) rfl)) (hw _ (List.mem_of_getElem? (i := 24) rfl)) (hw _ (List.mem_of_getElem? (i := 23) rfl)) (hw _ (List.mem_of_getElem? (i := 3) rfl)) (hw _ (List.mem_of_getElem? (i := 25) rfl)) (by decide) (by decide) (by decide) rfl (lenOf pd4 rfl) rfl rfl (Nat.le_of_eq rfl) (by decide) (by decide) rfl ?_
  rintro _ h17 ⟨rfl, K17, F17_rank, F17_heap, F17_size, Q17_⟩
  replace A_b1 := A_b1.keep K17 (ninS ne_b1_b7 (ninS ne_b1_q_8 nin0))
  replace E_b7 := E_b7.keep K17
  replace Z_ := Nat.le_trans Z_ K17.1
  replace F_b7_rank := F17_rank
  replace F_b7_heap := F17_heap
  replace F_b7_size := F17_size
  replace A8_q := Q17_
  show Wp p l e _ s m _ below meth c n0 _ h17 (((0 + 1) + 1) + 1) (((0 + 5) + 3) + 5) (mkF m 174 #[.val (.int p0), .val (.int p1), .val (.int p2), .val (.int p3), .val (.int p4), .val (.ref b1), .val (.ref b7), .val (.int T4.1), .val (.int (1 : Int32)), .val (.int U4.1), .val (.int U3.1), .unset, .unset] [(.int U2.1)])
  refine own_istore (pc' := 176) (y := U2.1) (Ls' := #[.val (.int p0), .val (.int p1), .val (.int p2), .val (.int p3), .val (.int p4), .val (.ref b1), .val (.ref b7), .val (.int T4.1), .val (.int (1 : Int32)), .val (.int U4.1), .val (.int U3.1), .val (.int U2.1), .unset]) C at_174 rfl rfl rfl ?_
  refine own_iload (pc' := 178) C at_176 rfl rfl ?_
  refine own_if_eq (pt := 196) (pf := 181) C at_178 (by decide) (by decide) rfl (fun q => absurd q (by decide)) (fun _ => ?_)
  refine own_aload (pc' := 183) C at_181 rfl rfl rfl ?_
  refine own_iload (pc' := 185) C at_183 rfl rfl ?_
  refine own_iconst (pc' := 186) (v := (3 : Int32)) C at_185 own_ki_3 rfl ?_
  refine own_callS (pc' := 189) (wL := 0) (argsL := [(.ref b1), (.int U2.1), (.int (3 : Int32))]) (rest := []) C (own_att l Z a0 hw b1 U2.1 (3 : Int32) y13 y22 y31 y40 y50 h17 n0 Z_ A_b1 PU2.1) at_186 (hw _ (List.mem_of_getElem? (i := 26) rfl)) (hw _ (List.mem_of_getElem? (i := 27) rfl)) (hw _ (List.mem_of_getElem? (i := 28) rfl)) (hw _ (List.mem_of_getElem? (i := 29) rfl)) (by decide) (by decide) (by decide) rfl (lenOf pd5 rfl) rfl rfl (Nat.le_of_eq rfl) (by decide) (by decide) rfl ?_
  rintro _ _ ⟨rfl, rfl⟩
  rw [show (own_at y13 y22 y31 y40 y50 (own_rk [y13, y22, y31, y40, y50] U2.1) (3 : Int32)) = 1 from ((((own_main hy13 hy22 hy31 hy40 hy50 hT1 hT2 hT3 hT4).2 U4 hU4).2 U3 hU3).2 U2 hU2).1]
  show Wp p l e _ s m _ below meth c n0 _ h17 (((0 + 1) + 1) + 1) (((0 + 5) + 3) + 5) (mkF m 189 #[.val (.int p0), .val (.int p1), .val (.int p2), .val (.int p3), .val (.int p4), .val (.ref b1), .val (.ref b7), .val (.int T4.1), .val (.int (1 : Int32)), .val (.int U4.1), .val (.int U3.1), .val (.int U2.1), .unset] [(.int (1 : Int32))])
  refine own_if_eq (pt := 196) (pf := 192) C at_189 (by decide) (by decide) rfl (fun q => absurd q (by decide)) (fun _ => ?_)
  refine own_iconst (pc' := 193) (v := (1 : Int32)) C at_192 own_ki_1 rfl ?_
  refine own_goto (pc' := 197) C at_193 (by decide) (by decide) ?_
  refine own_istore (pc' := 199) (y := (1 : Int32)) (Ls' := #[.val (.int p0), .val (.int p1), .val (.int p2), .val (.int p3), .val (.int p4), .val (.ref b1), .val (.ref b7), .val (.int T4.1), .val (.int (1 : Int32)), .val (.int U4.1), .val (.int U3.1), .val (.int U2.1), .unset]) C at_197 rfl rfl rfl ?_
  refine own_aload (pc' := 201) C at_199 rfl rfl rfl ?_
  refine own_callV (pc' := 204) (wL := 0) (a := b7) (argsL := []) (rest := []) C (own_poll0 l Z a0 hw b7  b1 q_8 y13 y22 y31 y40 y50 U2.2 U2.2 U3.2.2 U4.2.2.2 T4.2.2.2.2 h17 n0 Z_ E_b7 F_b7_rank F_b7_heap F_b7_size g_b7 A_b1 A8_q g_q_8 (Ne.symm ne_b1_b7) ne_b7_q_8 ne_b1_q_8 PU2.2) E_b7 at_201 (hw _ (List.mem_of_getElem? (i := 21) rfl)) (hw _ (List.mem_of_getElem? (i := 22) rfl)) (hw _ (List.mem_of_getElem? (i := 24) rfl)) (hw _ (List.mem_of_getElem? (i := 23) rfl)) (hw _ (List.mem_of_getElem? (i := 3) rfl)) (hw _ (List.mem_of_getElem? (i := 25) rfl)) (by decide) (by decide) (by decide) rfl (lenOf pd4 rfl) rfl rfl (Nat.le_of_eq rfl) (by decide) (by decide) rfl ?_
  rintro _ h18 ⟨rfl, K18, F18_rank, F18_heap, F18_size, Q18_⟩
  replace A_b1 := A_b1.keep K18 (ninS ne_b1_b7 (ninS ne_b1_q_8 nin0))
  replace E_b7 := E_b7.keep K18
  replace Z_ := Nat.le_trans Z_ K18.1
  replace F_b7_rank := F18_rank
  replace F_b7_heap := F18_heap
  replace F_b7_size := F18_size
  replace A8_q := Q18_
  show Wp p l e _ s m _ below meth c n0 _ h18 (((0 + 1) + 1) + 1) (((0 + 5) + 3) + 5) (mkF m 204 #[.val (.int p0), .val (.int p1), .val (.int p2), .val (.int p3), .val (.int p4), .val (.ref b1), .val (.ref b7), .val (.int T4.1), .val (.int (1 : Int32)), .val (.int U4.1), .val (.int U3.1), .val (.int U2.1), .unset] [(.int U2.2)])
  refine own_istore (pc' := 206) (y := U2.2) (Ls' := #[.val (.int p0), .val (.int p1), .val (.int p2), .val (.int p3), .val (.int p4), .val (.ref b1), .val (.ref b7), .val (.int T4.1), .val (.int (1 : Int32)), .val (.int U4.1), .val (.int U3.1), .val (.int U2.1), .val (.int U2.2)]) C at_204 rfl rfl rfl ?_
  refine own_iload (pc' := 208) C at_206 rfl rfl ?_
  refine own_if_eq (pt := 226) (pf := 211) C at_208 (by decide) (by decide) rfl (fun q => absurd q (by decide)) (fun _ => ?_)
  refine own_aload (pc' := 213) C at_211 rfl rfl rfl ?_
  refine own_iload (pc' := 215) C at_213 rfl rfl ?_
  refine own_iconst (pc' := 216) (v := (4 : Int32)) C at_215 own_ki_4 rfl ?_
  refine own_callS (pc' := 219) (wL := 0) (argsL := [(.ref b1), (.int U2.2), (.int (4 : Int32))]) (rest := []) C (own_att l Z a0 hw b1 U2.2 (4 : Int32) y13 y22 y31 y40 y50 h18 n0 Z_ A_b1 PU2.2) at_216 (hw _ (List.mem_of_getElem? (i := 26) rfl)) (hw _ (List.mem_of_getElem? (i := 27) rfl)) (hw _ (List.mem_of_getElem? (i := 28) rfl)) (hw _ (List.mem_of_getElem? (i := 29) rfl)) (by decide) (by decide) (by decide) rfl (lenOf pd5 rfl) rfl rfl (Nat.le_of_eq rfl) (by decide) (by decide) rfl ?_
  rintro _ _ ⟨rfl, rfl⟩
  rw [show (own_at y13 y22 y31 y40 y50 (own_rk [y13, y22, y31, y40, y50] U2.2) (4 : Int32)) = 1 from ((((own_main hy13 hy22 hy31 hy40 hy50 hT1 hT2 hT3 hT4).2 U4 hU4).2 U3 hU3).2 U2 hU2).2]
  show Wp p l e _ s m _ below meth c n0 _ h18 (((0 + 1) + 1) + 1) (((0 + 5) + 3) + 5) (mkF m 219 #[.val (.int p0), .val (.int p1), .val (.int p2), .val (.int p3), .val (.int p4), .val (.ref b1), .val (.ref b7), .val (.int T4.1), .val (.int (1 : Int32)), .val (.int U4.1), .val (.int U3.1), .val (.int U2.1), .val (.int U2.2)] [(.int (1 : Int32))])
  refine own_if_eq (pt := 226) (pf := 222) C at_219 (by decide) (by decide) rfl (fun q => absurd q (by decide)) (fun _ => ?_)
  refine own_iconst (pc' := 223) (v := (1 : Int32)) C at_222 own_ki_1 rfl ?_
  refine own_goto (pc' := 227) C at_223 (by decide) (by decide) ?_
  refine own_istore (pc' := 229) (y := (1 : Int32)) (Ls' := #[.val (.int p0), .val (.int p1), .val (.int p2), .val (.int p3), .val (.int p4), .val (.ref b1), .val (.ref b7), .val (.int T4.1), .val (.int (1 : Int32)), .val (.int U4.1), .val (.int U3.1), .val (.int U2.1), .val (.int U2.2)]) C at_227 rfl rfl rfl ?_
  refine own_iload (pc' := 231) C at_229 rfl rfl ?_
  refine own_if_eq (pt := 246) (pf := 234) C at_231 (by decide) (by decide) rfl (fun q => absurd q (by decide)) (fun _ => ?_)
  refine own_aload (pc' := 236) C at_234 rfl rfl rfl ?_
  refine own_callV (pc' := 239) (wL := 0) (a := b7) (argsL := []) (rest := []) C (own_m7 l Z a0 hw b7 (0 : Int32) h18 n0 Z_ F_b7_size) E_b7 at_236 (hw _ (List.mem_of_getElem? (i := 33) rfl)) (hw _ (List.mem_of_getElem? (i := 34) rfl)) (hw _ (List.mem_of_getElem? (i := 36) rfl)) (hw _ (List.mem_of_getElem? (i := 35) rfl)) (hw _ (List.mem_of_getElem? (i := 3) rfl)) (hw _ (List.mem_of_getElem? (i := 37) rfl)) (by decide) (by decide) (by decide) rfl (lenOf pd7 rfl) rfl rfl (Nat.le_of_eq rfl) (by decide) (by decide) rfl ?_
  rintro _ _ ⟨rfl, rfl⟩
  rw [show (own_emp (0 : Int32)) = (1 : Int32) from by decide]
  show Wp p l e _ s m _ below meth c n0 _ h18 (((0 + 1) + 1) + 1) (((0 + 5) + 3) + 5) (mkF m 239 #[.val (.int p0), .val (.int p1), .val (.int p2), .val (.int p3), .val (.int p4), .val (.ref b1), .val (.ref b7), .val (.int T4.1), .val (.int (1 : Int32)), .val (.int U4.1), .val (.int U3.1), .val (.int U2.1), .val (.int U2.2)] [(.int (1 : Int32))])
  refine own_if_eq (pt := 246) (pf := 242) C at_239 (by decide) (by decide) rfl (fun q => absurd q (by decide)) (fun _ => ?_)
  refine own_iconst (pc' := 243) (v := (1 : Int32)) C at_242 own_ki_1 rfl ?_
  refine own_goto (pc' := 247) C at_243 (by decide) (by decide) ?_
  refine own_zret C at_247 (by decide) (by decide) (Or.inr rfl) ?_
  exact rfl
set_option maxRecDepth 65536 in
set_option maxHeartbeats 40000000 in
theorem comes_1 {Post : Tables → Env → Array Value → State → Outcome → State → Prop} (hpost : ∀ tb e args s v u, (limb_1_1.after args s (.returned v) u = true ∧ limb_1_2.after args s (.returned v) u = true ∧ True) → FrameEnd s (.returned v) u (Jvm.fieldLocs frame_1_writes args s ++ Jvm.arrayLocs frame_1_arrays args s ++ Jvm.staticLocs frame_1_statics s) 16 128 → Post tb e args s (.returned v) u) :
    ArmFor flags0 classFile x code maxLocals ret World_1 tables_1 room_1 Calls_1 rest_1 Pre_1 Post := by
  intro l hfl _ _ p e ha hc hk s m args below hf hA hF happ hP
  obtain ⟨hcalls, hrest, hpre⟩ := hP
  obtain ⟨-, -, -, hnamed, -, -, -, hat⟩ := (Spec.applies_iff hf).mp happ
  obtain ⟨hg, hn⟩ := and_e (Cond.before_iff.mp (show (Jvm.Cond.and given_1 narrow_1).before args s = true from hpre))
  obtain ⟨hcount, q0⟩ := and_e hg
  obtain ⟨r0, q1⟩ := and_e q0
  obtain ⟨r1, q2⟩ := and_e q1
  obtain ⟨r2, q3⟩ := and_e q2
  obtain ⟨r3, q4⟩ := and_e q3
  obtain ⟨w0, w1, w2, w3, w4, rfl⟩ : ∃ w0 w1 w2 w3 w4 : Value, args = #[w0, w1, w2, w3, w4] := by
    have hs : args.size = 5 := by simpa [Cond.value, given_1] using hcount
    obtain ⟨L⟩ := args
    match L, hs with
    | [w0, w1, w2, w3, w4], _ => exact ⟨w0, w1, w2, w3, w4, rfl⟩
  have hw := fun d (hd : d ∈ tables_1) => atoms_spec (ws := Jvm.Cond.code x code maxLocals ret :: tables_1) hat d (List.mem_cons_of_mem _ hd)
  obtain ⟨i0, e0⟩ := is_v r0
  obtain rfl : w0 = (.int i0) := Option.some.inj e0
  obtain ⟨i1, e1⟩ := is_v r1
  obtain rfl : w1 = (.int i1) := Option.some.inj e1
  obtain ⟨i2, e2⟩ := is_v r2
  obtain rfl : w2 = (.int i2) := Option.some.inj e2
  obtain ⟨i3, e3⟩ := is_v r3
  obtain rfl : w3 = (.int i3) := Option.some.inj e3
  obtain ⟨i4, e4⟩ := is_v q4
  obtain rfl : w4 = (.int i4) := Option.some.inj e4
  obtain ⟨n, o, h1, h2, h3, _, L, rfl, ⟨rfl, N⟩, hq⟩ := own_law l s _ hw tables_1 i0 i1 i2 i3 i4  s.heap s.heap.size (Nat.le_refl _)  p e ha hc hk s m _ below hf ((Spec.applies_iff_loose hf).mp happ).1 ⟨rfl, State.Warmed39.refl s, rfl⟩ trivial
  refine ⟨n, _, h1, h2, h3, hpost _ _ _ _ _ _ ⟨Cond.after_iff.mpr rfl, Cond.after_iff.mpr (eq_i res_at (Term.int_eval (1)) rfl), trivial⟩ ⟨hq.1, hq.2.1, (hq.2.2.sift fun y hy => Or.inr (N y hy)).mono (by decide) (by decide)⟩⟩
theorem main_1_1 : Claimed_1_1 := comes_1 fun _ _ _ _ _ _ h hF => ⟨h.1, hF⟩
theorem main_1_2 : Claimed_1_2 := comes_1 fun _ _ _ _ _ _ h hF => ⟨h.2.1, hF⟩
end Jvm.Pilot.@@N@@
namespace Jvm.Pilot.@@N@@
open Jvm Jvm.ClassFile Sem Op Lib Jvm.Free Jvm.Stand Jvm.Pilot.@@N@@.Jvm.D
/-! MADE BY PROGRAM (witnessworld.py) out of the Statement's table words and the real class files: 9 classes; the members and pool entries that the words name. The judged class is class 1, her method 3. -/
namespace start1
open Jvm.ClassFile
def u (s : String) : CpInfo := .utf8 (stringToUtf16 s)
/-- a pool by its gaps: so many unusable entries, then the entry; so many at the end -/
def gap : Nat → List CpInfo → List CpInfo
  | 0, r => r
  | n + 1, r => .unusable :: gap n r
def poolList (es : List (Nat × CpInfo)) (last : Nat) : List CpInfo := es.foldr (fun e r => gap e.1 (e.2 :: r)) (gap last [])
def pool (es : List (Nat × CpInfo)) (last : Nat) : Array CpInfo := ⟨poolList es last⟩
def fileOf (pool : Array CpInfo) (this : Nat) (attrs : Array Attribute := #[]) (ms : Array MethodInfo := #[]) (fl : Nat := 33) (sup : Nat := 0) (ifs : Array Nat := #[]) (fds : Array FieldInfo := #[]) : ClassFile where
  minorVersion := 0
  majorVersion := 65
  constantPool := pool
  accessFlags := fl
  thisClass := this
  superClass := sup
  interfaces := ifs
  fields := fds
  methods := ms
  attributes := attrs
def plain (name : String) (sup : Option ClassId) : Class where
  name := name
  kind := .ordinary
  loader := none
  accessFlags := 33
  super := sup
  interfaces := #[]
  cf := none
  fields := #[]
  methods := #[]
  instanceTypes := #[]
  staticTypes := #[]
  resolved := #[]
  callSites := []
  init := .initialized
  statics := none
  mirror := none

def pool0 : Array CpInfo := pool [(5, u "<init>"), (0, u "()V"), (1, .class_ 10), (1, u "java/lang/Object")] 113

def k0c0 : Code := { maxStack := 0, maxLocals := 1, code := object_method_1_code, exceptionTable := #[], attributes := #[] }
def k0m0 : Method := { name := "<init>", desc := "()V", sig := { parameters := [], returnType := none }, accessFlags := 1, code := some k0c0 }
/-- java/lang/Object -/
def k0 : Class := { plain "java/lang/Object" none with
  accessFlags := 33
  interfaces := #[]
  cf := some (fileOf pool0 8 #[] #[{ accessFlags := 1, nameIndex := 5, descriptorIndex := 6, attributes := #[] }] 33 0 #[] #[])
  fields := #[]
  methods := #[k0m0]
  instanceTypes := #[]
  staticTypes := #[]
  resolved := Array.replicate 124 none
  statics := none }

def pool1 : Array CpInfo := pool [(2, .class_ 4), (1, u "java/lang/Object"), (0, u "<init>"), (0, u "()V"), (0, .methodref 8 9), (0, .class_ 10), (0, .nameAndType 11 12), (0, u "com/example/precedence/precedence/IntHeapPollPinLaw"), (0, u "below"), (0, u "([II)I"), (0, .class_ 14), (0, u "com/example/precedence/precedence/IntHeap"), (0, .methodref 13 16), (0, .nameAndType 5 17), (0, u "([I)V"), (0, .methodref 13 19), (0, .nameAndType 20 21), (0, u "add"), (0, u "(I)V"), (0, .methodref 13 23), (0, .nameAndType 24 25), (0, u "poll"), (0, u "()I"), (0, .methodref 8 27), (0, .nameAndType 28 29), (0, u "at"), (0, u "([III)Z"), (0, .methodref 13 31), (0, .nameAndType 32 33), (0, u "isEmpty"), (0, u "()Z"), (3, u "law"), (0, u "(IIIII)Z")] 4

def k1m0 : Method := { name := "<init>", desc := "()V", sig := { parameters := [], returnType := none }, accessFlags := 1, code := none }
def k1c1 : Code := { maxStack := 3, maxLocals := 3, code := method_2_code, exceptionTable := #[], attributes := #[] }
def k1m1 : Method := { name := "below", desc := "([II)I", sig := { parameters := [(.array .int), .int], returnType := some .int }, accessFlags := 10, code := some k1c1 }
def k1c2 : Code := { maxStack := 2, maxLocals := 3, code := method_3_code, exceptionTable := #[], attributes := #[] }
def k1m2 : Method := { name := "at", desc := "([III)Z", sig := { parameters := [(.array .int), .int, .int], returnType := some .boolean }, accessFlags := 10, code := some k1c2 }
def k1c3 : Code := { maxStack := 4, maxLocals := 13, code := code, exceptionTable := #[], attributes := #[] }
def k1m3 : Method := { name := "law", desc := "(IIIII)Z", sig := { parameters := [.int, .int, .int, .int, .int], returnType := some .boolean }, accessFlags := 9, code := some k1c3 }
/-- com/example/precedence/precedence/IntHeapPollPinLaw -/
def k1 : Class := { plain "com/example/precedence/precedence/IntHeapPollPinLaw" (some 0) with
  accessFlags := 49
  interfaces := #[]
  cf := some (fileOf pool1 8 #[] #[{ accessFlags := 1, nameIndex := 5, descriptorIndex := 6, attributes := #[] }, { accessFlags := 10, nameIndex := 11, descriptorIndex := 12, attributes := #[] }, { accessFlags := 10, nameIndex := 28, descriptorIndex := 29, attributes := #[] }, { accessFlags := 9, nameIndex := 37, descriptorIndex := 38, attributes := #[] }] 49 2 #[] #[])
  fields := #[]
  methods := #[k1m0, k1m1, k1m2, k1m3]
  instanceTypes := #[]
  staticTypes := #[]
  resolved := Array.replicate 43 none
  statics := none }

def pool2 : Array CpInfo := pool [(1, .methodref 2 3), (0, .class_ 4), (0, .nameAndType 5 6), (0, u "java/lang/Object"), (0, u "<init>"), (0, u "()V"), (0, .fieldref 8 9), (0, .class_ 10), (0, .nameAndType 11 12), (0, u "com/example/precedence/precedence/IntHeap"), (0, u "rank"), (0, u "[I"), (0, .fieldref 8 14), (0, .nameAndType 15 12), (0, u "heap"), (0, .fieldref 8 17), (0, .nameAndType 18 19), (0, u "size"), (0, u "I"), (0, u "([I)V"), (2, u "isEmpty"), (0, u "()Z"), (1, u "add"), (0, u "(I)V"), (0, u "poll"), (0, u "()I")] 2

def k2c0 : Code := { maxStack := 2, maxLocals := 2, code := prog_28_method_1_code, exceptionTable := #[], attributes := #[] }
def k2m0 : Method := { name := "<init>", desc := "([I)V", sig := { parameters := [(.array .int)], returnType := none }, accessFlags := 0, code := some k2c0 }
def k2c1 : Code := { maxStack := 1, maxLocals := 1, code := prog_28_method_2_code, exceptionTable := #[], attributes := #[] }
def k2m1 : Method := { name := "isEmpty", desc := "()Z", sig := { parameters := [], returnType := some .boolean }, accessFlags := 0, code := some k2c1 }
def k2c2 : Code := { maxStack := 5, maxLocals := 3, code := prog_28_method_3_code, exceptionTable := #[], attributes := #[] }
def k2m2 : Method := { name := "add", desc := "(I)V", sig := { parameters := [.int], returnType := none }, accessFlags := 0, code := some k2c2 }
def k2c3 : Code := { maxStack := 4, maxLocals := 5, code := prog_28_method_4_code, exceptionTable := #[], attributes := #[] }
def k2m3 : Method := { name := "poll", desc := "()I", sig := { parameters := [], returnType := some .int }, accessFlags := 0, code := some k2c3 }
/-- com/example/precedence/precedence/IntHeap -/
def k2 : Class := { plain "com/example/precedence/precedence/IntHeap" (some 0) with
  accessFlags := 48
  interfaces := #[]
  cf := some (fileOf pool2 8 #[] #[{ accessFlags := 0, nameIndex := 5, descriptorIndex := 20, attributes := #[] }, { accessFlags := 0, nameIndex := 23, descriptorIndex := 24, attributes := #[] }, { accessFlags := 0, nameIndex := 26, descriptorIndex := 27, attributes := #[] }, { accessFlags := 0, nameIndex := 28, descriptorIndex := 29, attributes := #[] }] 48 2 #[] #[{ accessFlags := 18, nameIndex := 11, descriptorIndex := 12, attributes := #[] }, { accessFlags := 18, nameIndex := 15, descriptorIndex := 12, attributes := #[] }, { accessFlags := 2, nameIndex := 18, descriptorIndex := 19, attributes := #[] }])
  fields := #[{ name := "rank", type := (.array .int), accessFlags := 18, slot := 0, constantValue := 0 }, { name := "heap", type := (.array .int), accessFlags := 18, slot := 1, constantValue := 0 }, { name := "size", type := .int, accessFlags := 2, slot := 2, constantValue := 0 }]
  methods := #[k2m0, k2m1, k2m2, k2m3]
  instanceTypes := #[(.array .int), (.array .int), .int]
  staticTypes := #[]
  resolved := Array.replicate 32 none
  statics := none }

def pool3 : Array CpInfo := pool [(1, u "java/lang/Cloneable"), (0, .class_ 1), (0, u "java/lang/Object"), (0, .class_ 3)] 3

/-- java/lang/Cloneable -/
def k3 : Class := { plain "java/lang/Cloneable" (some 0) with
  accessFlags := 1537
  interfaces := #[]
  cf := some (fileOf pool3 2 #[] #[] 1537 4 #[] #[])
  fields := #[]
  methods := #[]
  instanceTypes := #[]
  staticTypes := #[]
  resolved := Array.replicate 8 none
  statics := none }

def pool4 : Array CpInfo := pool [(1, u "java/io/Serializable"), (0, .class_ 1), (0, u "java/lang/Object"), (0, .class_ 3)] 3

/-- java/io/Serializable -/
def k4 : Class := { plain "java/io/Serializable" (some 0) with
  accessFlags := 1537
  interfaces := #[]
  cf := some (fileOf pool4 2 #[] #[] 1537 4 #[] #[])
  fields := #[]
  methods := #[]
  instanceTypes := #[]
  staticTypes := #[]
  resolved := Array.replicate 8 none
  statics := none }

/-- the primitive byte -/
def k5 : Class := { plain "byte" none with kind := .primitive 'B', accessFlags := 0x411 }
/-- [B -/
def k6 : Class := { plain "[B" (some 0) with kind := .array 5 .byte, interfaces := #[3, 4], accessFlags := 1041 }

/-- the primitive int -/
def k7 : Class := { plain "int" none with kind := .primitive 'I', accessFlags := 0x411 }
/-- [I -/
def k8 : Class := { plain "[I" (some 0) with kind := .array 7 .int, interfaces := #[3, 4], accessFlags := 1041 }

def heap : Heap := #[]
def classes : Array Class := #[k0, k1, k2, k3, k4, k5, k6, k7, k8]
def interned : List (Array UInt16 × Addr) := []
def slotsUsed : Nat := 0
def theMethod : MethodId := ⟨1, 3⟩
def args0 : Array Value := #[.int 5, .int 5, .int 5, .int 5, .int 9]
def aboutOver (below : List Frame) : State where
  vm := { classes := classes, interned := interned.toArray }
  heap := heap
  slotsUsed := slotsUsed
  threads := #[{ frames := .invoking theMethod args0 :: below }]
def below0 : List Frame := [.native { method := ⟨0, 0⟩, args := #[] }]
def about1 : State := aboutOver below0
def p0 : Program := .bare "" "" ""
def e0 : Env := launch0.env 0 0 0
theorem w_frames : about1.frames = Frame.invoking theMethod args0 :: below0 := rfl
set_option maxRecDepth 65536 in
theorem w_args : argsFit about1.vm theMethod args0 = true := by decide +kernel
set_option maxRecDepth 65536 in
theorem w_heap : heapFits about1 = true := by decide +kernel
set_option maxRecDepth 65536 in
theorem w_runnable : about1.curStatus? = some .runnable := by decide +kernel
set_option maxRecDepth 65536 in
theorem w_alone : about1.alone = true := by decide +kernel
set_option maxRecDepth 65536 in
theorem w_named : about1.methodNamed? x = some theMethod := by decide +kernel
set_option maxRecDepth 65536 in
theorem w_hears : about1.hears theMethod below0 = true := by decide +kernel
set_option maxRecDepth 65536 in
theorem w_ripe : about1.ripe theMethod args0 below0 = true := by decide +kernel
theorem w_running : about1.status = .running := rfl
set_option maxRecDepth 65536 in
theorem w_room : about1.hasRoom e0.platform room_1 = true :=
  launch0.hasRoom_least _ room_1 (by decide +kernel) (by decide +kernel) (by decide +kernel) (by decide +kernel) (by decide +kernel) (by decide +kernel)
theorem allAtoms_all (ts : List Jvm.Cond) (a : Array Jvm.Value) (st : Jvm.State) : (allAtoms ts).before a st = ts.all (fun c => c.before a st) := by
  induction ts with
  | nil => rfl
  | cons c t ih =>
    show (Jvm.Cond.and c (allAtoms t)).before a st = _
    rw [Jvm.Cond.before_and, ih, List.all_cons]
def words1 : List Jvm.Cond := Jvm.Cond.code x code maxLocals ret :: tables_1
/-- a 'code' word, met by the world's own term for the bytes: nothing is compared byte by byte -/
theorem code_word {y : MethodName} {bytes : ByteArray} {mx : Nat} {rt : Option FieldType} {a : Array Value} {s : State} {m : MethodId} {meth : Method} {c : Code} (h1 : s.methodNamed? y = some m) (h2 : s.vm.method? m = some meth) (h3 : meth.code = some c) (h4 : c.code = bytes)
    (h5 : (c.maxLocals == mx && c.exceptionTable.isEmpty && decide (c.maxStack ≤ mostOperands) && decide (meth.sig.returnType = rt) && !meth.locks && decide (parseMethodDescriptor y.desc = some meth.sig)) = true) : (Jvm.Cond.code y bytes mx rt).before a s = true := by
  simp only [Bool.and_eq_true, beq_iff_eq, Bool.not_eq_true', decide_eq_true_eq] at h5
  obtain ⟨⟨⟨⟨⟨g1, g2⟩, g3⟩, g4⟩, g5⟩, g6⟩ := h5
  simp [Cond.before, Cond.holds, Cond.value, h1, h2, h3, h4, g1, g2, g3, g4, g5, g6]
def isCode : Jvm.Cond → Bool
  | .code _ _ _ _ => true
  | _ => false
theorem all_split {L : List Jvm.Cond} {P : Jvm.Cond → Bool} (h1 : L.all (fun c => isCode c || P c) = true) (h2 : ∀ c ∈ L.filter isCode, P c = true) : L.all P = true := by
  refine List.all_eq_true.mpr fun c hc => ?_
  have h := List.all_eq_true.mp h1 c hc
  rcases Bool.eq_false_or_eq_true (isCode c) with hi | hi
  · exact h2 c (List.mem_filter.mpr ⟨hc, hi⟩)
  · simpa [hi] using h
set_option maxRecDepth 65536 in
theorem w_c0 : (Jvm.Cond.code x code maxLocals ret).before args0 about1 = true := code_word (m := ⟨1, 3⟩) (meth := k1m3) (c := k1c3) (by decide +kernel) rfl rfl rfl (by decide +kernel)
set_option maxRecDepth 65536 in
theorem w_c1 : (Jvm.Cond.code ({ cls := "com/example/precedence/precedence/IntHeap", name := "<init>", desc := "([I)V" } : Jvm.MethodName) prog_28_method_1_code (2 : Nat) (Option.none : Option Jvm.ClassFile.FieldType)).before args0 about1 = true := code_word (m := ⟨2, 0⟩) (meth := k2m0) (c := k2c0) (by decide +kernel) rfl rfl rfl (by decide +kernel)
set_option maxRecDepth 65536 in
theorem w_c2 : (Jvm.Cond.code ({ cls := "java/lang/Object", name := "<init>", desc := "()V" } : Jvm.MethodName) object_method_1_code (1 : Nat) (Option.none : Option Jvm.ClassFile.FieldType)).before args0 about1 = true := code_word (m := ⟨0, 0⟩) (meth := k0m0) (c := k0c0) (by decide +kernel) rfl rfl rfl (by decide +kernel)
set_option maxRecDepth 65536 in
theorem w_c3 : (Jvm.Cond.code ({ cls := "com/example/precedence/precedence/IntHeap", name := "add", desc := "(I)V" } : Jvm.MethodName) prog_28_method_3_code (3 : Nat) (Option.none : Option Jvm.ClassFile.FieldType)).before args0 about1 = true := code_word (m := ⟨2, 2⟩) (meth := k2m2) (c := k2c2) (by decide +kernel) rfl rfl rfl (by decide +kernel)
set_option maxRecDepth 65536 in
theorem w_c4 : (Jvm.Cond.code ({ cls := "com/example/precedence/precedence/IntHeap", name := "poll", desc := "()I" } : Jvm.MethodName) prog_28_method_4_code (5 : Nat) (Option.some Jvm.ClassFile.FieldType.int)).before args0 about1 = true := code_word (m := ⟨2, 3⟩) (meth := k2m3) (c := k2c3) (by decide +kernel) rfl rfl rfl (by decide +kernel)
set_option maxRecDepth 65536 in
theorem w_c5 : (Jvm.Cond.code ({ cls := "com/example/precedence/precedence/IntHeapPollPinLaw", name := "at", desc := "([III)Z" } : Jvm.MethodName) method_3_code (3 : Nat) (Option.some Jvm.ClassFile.FieldType.boolean)).before args0 about1 = true := code_word (m := ⟨1, 2⟩) (meth := k1m2) (c := k1c2) (by decide +kernel) rfl rfl rfl (by decide +kernel)
set_option maxRecDepth 65536 in
theorem w_c6 : (Jvm.Cond.code ({ cls := "com/example/precedence/precedence/IntHeapPollPinLaw", name := "below", desc := "([II)I" } : Jvm.MethodName) method_2_code (3 : Nat) (Option.some Jvm.ClassFile.FieldType.int)).before args0 about1 = true := code_word (m := ⟨1, 1⟩) (meth := k1m1) (c := k1c1) (by decide +kernel) rfl rfl rfl (by decide +kernel)
set_option maxRecDepth 65536 in
theorem w_c7 : (Jvm.Cond.code ({ cls := "com/example/precedence/precedence/IntHeap", name := "isEmpty", desc := "()Z" } : Jvm.MethodName) prog_28_method_2_code (1 : Nat) (Option.some Jvm.ClassFile.FieldType.boolean)).before args0 about1 = true := code_word (m := ⟨2, 1⟩) (meth := k2m1) (c := k2c1) (by decide +kernel) rfl rfl rfl (by decide +kernel)
def codes1 : List Jvm.Cond := [Jvm.Cond.code x code maxLocals ret, Jvm.Cond.code ({ cls := "com/example/precedence/precedence/IntHeap", name := "<init>", desc := "([I)V" } : Jvm.MethodName) prog_28_method_1_code (2 : Nat) (Option.none : Option Jvm.ClassFile.FieldType), Jvm.Cond.code ({ cls := "java/lang/Object", name := "<init>", desc := "()V" } : Jvm.MethodName) object_method_1_code (1 : Nat) (Option.none : Option Jvm.ClassFile.FieldType), Jvm.Cond.code ({ cls := "com/example/precedence/precedence/IntHeap", name := "add", desc := "(I)V" } : Jvm.MethodName) prog_28_method_3_code (3 : Nat) (Option.none : Option Jvm.ClassFile.FieldType), Jvm.Cond.code ({ cls := "com/example/precedence/precedence/IntHeap", name := "poll", desc := "()I" } : Jvm.MethodName) prog_28_method_4_code (5 : Nat) (Option.some Jvm.ClassFile.FieldType.int), Jvm.Cond.code ({ cls := "com/example/precedence/precedence/IntHeapPollPinLaw", name := "at", desc := "([III)Z" } : Jvm.MethodName) method_3_code (3 : Nat) (Option.some Jvm.ClassFile.FieldType.boolean), Jvm.Cond.code ({ cls := "com/example/precedence/precedence/IntHeapPollPinLaw", name := "below", desc := "([II)I" } : Jvm.MethodName) method_2_code (3 : Nat) (Option.some Jvm.ClassFile.FieldType.int), Jvm.Cond.code ({ cls := "com/example/precedence/precedence/IntHeap", name := "isEmpty", desc := "()Z" } : Jvm.MethodName) prog_28_method_2_code (1 : Nat) (Option.some Jvm.ClassFile.FieldType.boolean)]
set_option maxRecDepth 65536 in
theorem codes_eq : words1.filter isCode = codes1 := rfl
theorem w_codes : ∀ c ∈ words1.filter isCode, c.before args0 about1 = true := by
  rw [codes_eq]
  intro c hc
  simp only [codes1, List.mem_cons, List.not_mem_nil, or_false] at hc
  rcases hc with rfl | rfl | rfl | rfl | rfl | rfl | rfl | rfl
  · exact w_c0
  · exact w_c1
  · exact w_c2
  · exact w_c3
  · exact w_c4
  · exact w_c5
  · exact w_c6
  · exact w_c7
set_option maxRecDepth 65536 in
theorem w_t1 : (words1.take 24).all (fun c => isCode c || c.before args0 about1) = true := by decide +kernel
set_option maxRecDepth 65536 in
theorem w_t2 : (words1.drop 24).all (fun c => isCode c || c.before args0 about1) = true := by decide +kernel
theorem w_tables : (allAtoms (Jvm.Cond.code x code maxLocals ret :: tables_1)).before args0 about1 = true := by
  rw [allAtoms_all]
  show words1.all (fun c => c.before args0 about1) = true
  refine all_split ?_ w_codes
  rw [← List.take_append_drop 24 words1, List.all_append, w_t1, w_t2]
  rfl
set_option maxRecDepth 65536 in
theorem w_case : (Jvm.Cond.and given_1 narrow_1).before args0 about1 = true := by decide +kernel
theorem w_applies : (headSpec (Jvm.Cond.code x code maxLocals ret :: tables_1) room_1).applies x e0.platform about1 = true :=
  (Spec.applies_iff w_frames).mpr ⟨w_running, w_runnable, w_alone, w_named, w_hears, w_ripe, w_room, w_tables⟩
theorem atStart : AtStart classFile x code maxLocals ret World_1 tables_1 room_1 Calls_1 rest_1 Pre_1 launch0 p0 e0 about1 theMethod args0 below0 :=
  ⟨lists_1, trivial, launch0.admits_env _ _ _, launch0.least_env, fairChoices_fair.cas, fairChoices_fair.clock, w_frames, w_args, w_heap, w_applies, trivial, trivial, w_case⟩
end start1
theorem witness_1 : WitnessClaimed_1 := ⟨start1.p0, start1.e0, start1.about1, start1.theMethod, start1.args0, start1.below0, start1.atStart⟩
end Jvm.Pilot.@@N@@
