import JvmDerived
import JvmDerived.Pilot.@@N@@Statement
import JvmDerived.Pilot.@@N@@Code
set_option linter.unusedVariables false
set_option linter.unusedSimpArgs false
namespace Jvm.RoadKit
open Sem ClassFile Op Lib Jvm.Stand Jvm.Free Jvm.LawKit
section New
variable {p : Program} {l : Launch} {e : Env} {R : Room} {s : State} {m : MethodId} {args : Array Value} {below : List Frame} {meth : Method} {c : Code} {T : State} {locs : List Loc} {cells slots : Nat}
theorem retI (X : Stand p l e R s m args below meth c T locs cells slots) (hx : p.tables.exec = Jvm.exec) {pc : Nat} {Ls : Array Slot} {z : Int32} {rest : List Value} (hret : meth.sig.returnType = some .int) (hd : decode c.code pc = .ok (.ireturn, 1)) {fs : List Frame}
    (hl : ∀ (f : JFrame) (acts : List Action), f.method = m → f.locked = none → f.entered = [] → (doReturn e (T.setTop f) acts (some (.int z))).1 = T.setFrames fs) : Steps p.tables e below (T.setTop (mkF m pc Ls (.int z :: rest))) (T.setFrames fs) := by
  have hm' : T.vm.method? m = some meth := X.method'
  have hn : narrow .int (.int z) = .int z := rfl
  show Steps p.tables e below (T.setTop { method := m, pc := pc, locals := Ls, stack := _ :: rest, locked := none }) _
  jvm_step X.here [X.here.top, hx, hd, hm', hret, hn]
  first | (intro acts; rw [hl _ acts rfl rfl rfl]) | rw [hl _ _ rfl rfl rfl]
  exact Steps.refl _
end New
end Jvm.RoadKit
namespace Jvm.Pilot.@@N@@
open Jvm Jvm.ClassFile Sem Op Lib Jvm.Free Jvm.Stand Jvm.LawKit Jvm.RoadKit Bundle Jvm.Pilot.@@N@@.Jvm.D
section OwnKit
variable {p : Program} {l : Launch} {e : Env} {R : Room} {s : State} {m : MethodId} {args : Array Value} {below : List Frame} {meth : Method} {c : Code} {Z : State} {a0 : Array Value} {cd : ByteArray} {ml : Nat} {ret : Option FieldType} {own nm : String} {n0 : Nat} {Q : Option Value → Heap → Prop} {h : Heap} {k n : Nat}
/-- what stands fast while one body runs -/
def Cx (p : Program) (s : State) (m : MethodId) (meth : Method) (c : Code) (Z : State) (cd : ByteArray) (ml : Nat) (ret : Option FieldType) (own nm : String) : Prop :=
  p.tables.exec = Jvm.exec ∧ Z.Warmed39 s.vm ∧ c.code = cd ∧ c.maxLocals = ml ∧ s.vm.findClass own = some m.cls ∧ meth.sig.returnType = ret ∧ meth.locks = false ∧ meth.name = nm
/-- from this frame, over this heap, the body returns and Q holds -/
def Wp (p : Program) (l : Launch) (e : Env) (R : Room) (s : State) (m : MethodId) (args : Array Value) (below : List Frame) (meth : Method) (c : Code) (n0 : Nat) (Q : Option Value → Heap → Prop) (h : Heap) (k n : Nat) (g : JFrame) : Prop :=
  ∀ (T : State) (locs : List Loc), Stand p l e R s m args below meth c T locs k n → T.heap = h → Fr n0 locs →
    ∃ s₂ o, Steps p.tables e below (T.setTop g) s₂ ∧ s₂.status = .running ∧ Ended s₂ below o ∧ ∃ v L, o = .returned v ∧ (Q v s₂.heap ∧ Fr n0 L) ∧ FrameEnd s o s₂ L R.cells R.slots
/-- a callee's contract: called with these arguments over this heap it returns, and Q holds -/
def Met (l : Launch) (y : MethodName) (bytes : ByteArray) (mL : Nat) (rt : Option FieldType) (ws : List Jvm.Cond) (rm : Room) (Z : State) (n0 : Nat) (as : Array Value) (h : Heap) (Q : Option Value → Heap → Prop) : Prop :=
  MetFree l y (head1 (Jvm.Cond.code y bytes mL rt :: ws) rm) (fun a U => a = as ∧ Z.Warmed39 U.vm ∧ U.heap = h) (fun _ _ _ _ _ => True) (fun _ U o U' => ∃ v L, o = .returned v ∧ (Q v U'.heap ∧ Fr n0 L) ∧ FrameEnd U o U' L rm.cells rm.slots)
theorem own_met {y : MethodName} {bytes : ByteArray} {mL : Nat} {rt : Option FieldType} {ws : List Jvm.Cond} {rm : Room} {as : Array Value} {Ls : Array Slot} (hpn : plainName y.cls = true) (hef : ∀ m, entryFrame m as mL = mkF m 0 Ls [])
    (H : ∀ p e s m below meth c, Cx p s m meth c Z bytes mL rt y.cls y.name → Wp p l e rm s m as below meth c n0 Q h 0 0 (mkF m 0 Ls [])) : Met l y bytes mL rt ws rm Z n0 as h Q := by
  refine MetFree.of_bodySF (plainFor_of_name hpn) hisR ?_
  intro p e s m args below meth c s₁ Bd hml0 hP hK
  obtain ⟨rfl, hZ, hh⟩ := hP
  have hown : s.vm.findClass y.cls = some m.cls := findClass_of_methodNamed Bd.named
  have hnm := (name_of_methodNamed Bd.named Bd.method).1
  have X0 : Stand p l e rm s m args below meth c s₁ [] 0 0 := Stand.of_body Bd
  have e0 : s₁.heap = h := by rw [← hh, Bd.state]; rfl
  obtain ⟨s₂, o, st, r⟩ := H p e s m below meth c ⟨Bd.exec, hZ, Bd.bytes, hml0, hown, Bd.returns, Bd.notSynchronized, hnm⟩ s₁ [] X0 e0 (Fr.nil n0)
  exact ⟨s₂, o, castTop (hef m) st, r⟩
/-! single steps -/
theorem own_lift {g g' : JFrame} (H : ∀ T, At T m c below → ∀ t, Steps p.tables e below (T.setTop g') t → Steps p.tables e below (T.setTop g) t) (W : Wp p l e R s m args below meth c n0 Q h k n g') : Wp p l e R s m args below meth c n0 Q h k n g := fun T locs X eT N => by
  obtain ⟨s₂, o, st, r⟩ := W T locs X eT N
  exact ⟨s₂, o, H T X.here _ st, r⟩
theorem own_liftX {g g' : JFrame} (H : ∀ T locs, Stand p l e R s m args below meth c T locs k n → T.heap = h → ∀ t, Steps p.tables e below (T.setTop g') t → Steps p.tables e below (T.setTop g) t) (W : Wp p l e R s m args below meth c n0 Q h k n g') : Wp p l e R s m args below meth c n0 Q h k n g := fun T locs X eT N => by
  obtain ⟨s₂, o, st, r⟩ := W T locs X eT N
  exact ⟨s₂, o, H T locs X eT _ st, r⟩
theorem own_cast {g g' : JFrame} (q : g = g') (W : Wp p l e R s m args below meth c n0 Q h k n g') : Wp p l e R s m args below meth c n0 Q h k n g := q ▸ W
theorem own_seq {g g' : JFrame} (t : Wp p l e R s m args below meth c n0 Q h k n g' → Wp p l e R s m args below meth c n0 Q h k n g) (w : Wp p l e R s m args below meth c n0 Q h k n g') : Wp p l e R s m args below meth c n0 Q h k n g := t w
theorem own_seq1 {g : JFrame} {F : Slot → JFrame} (t : (∀ u, RoadKit.One u → Wp p l e R s m args below meth c n0 Q h k n (F u)) → Wp p l e R s m args below meth c n0 Q h k n g) (w : ∀ u, RoadKit.One u → Wp p l e R s m args below meth c n0 Q h k n (F u)) : Wp p l e R s m args below meth c n0 Q h k n g := t w
theorem own_seq2 {g : JFrame} {F : Slot → Slot → JFrame} (t : (∀ u, RoadKit.One u → ∀ v, RoadKit.One v → Wp p l e R s m args below meth c n0 Q h k n (F u v)) → Wp p l e R s m args below meth c n0 Q h k n g) (w : ∀ u, RoadKit.One u → ∀ v, RoadKit.One v → Wp p l e R s m args below meth c n0 Q h k n (F u v)) : Wp p l e R s m args below meth c n0 Q h k n g := t w
theorem own_seqH {g g' : JFrame} {P : Heap → Prop} {k' n' : Nat} (t : (∀ h', P h' → Wp p l e R s m args below meth c n0 Q h' k' n' g') → Wp p l e R s m args below meth c n0 Q h k n g) (w : ∀ h', P h' → Wp p l e R s m args below meth c n0 Q h' k' n' g') : Wp p l e R s m args below meth c n0 Q h k n g := t w
variable {pc pc' : Nat} {Ls Ls' : Array Slot} {st : List Value}
theorem own_iload (C : Cx p s m meth c Z cd ml ret own nm) {i : Nat} {v : Int32} (hd : decode cd pc = .ok (.iload i, 2)) (hl : Ls[i]? = some (.val (.int v))) (hp : pc + 2 = pc') (W : Wp p l e R s m args below meth c n0 Q h k n (mkF m pc' Ls (.int v :: st))) : Wp p l e R s m args below meth c n0 Q h k n (mkF m pc Ls st) := by
  subst hp; exact own_lift (fun T A t q => XS.iload A C.1 rfl (hb C.2.2.1 hd) hl q) W
theorem own_iloadN (C : Cx p s m meth c Z cd ml ret own nm) {i : Fin 4} {v : Int32} (hd : decode cd pc = .ok (.iload_n i, 1)) (hl : Ls[i.val]? = some (.val (.int v))) (hp : pc + 1 = pc') (W : Wp p l e R s m args below meth c n0 Q h k n (mkF m pc' Ls (.int v :: st))) : Wp p l e R s m args below meth c n0 Q h k n (mkF m pc Ls st) := by
  subst hp; exact own_lift (fun T A t q => XS.iloadN A C.1 rfl (hb C.2.2.1 hd) hl q) W
theorem own_lload (C : Cx p s m meth c Z cd ml ret own nm) {i : Nat} {v : Int64} (hd : decode cd pc = .ok (.lload i, 2)) (hl : Ls[i]? = some (.val (.long v))) (hp : pc + 2 = pc') (W : Wp p l e R s m args below meth c n0 Q h k n (mkF m pc' Ls (.long v :: st))) : Wp p l e R s m args below meth c n0 Q h k n (mkF m pc Ls st) := by
  subst hp; exact own_lift (fun T A t q => XS.lload A C.1 rfl (hb C.2.2.1 hd) hl q) W
theorem own_lloadN (C : Cx p s m meth c Z cd ml ret own nm) {i : Fin 4} {v : Int64} (hd : decode cd pc = .ok (.lload_n i, 1)) (hl : Ls[i.val]? = some (.val (.long v))) (hp : pc + 1 = pc') (W : Wp p l e R s m args below meth c n0 Q h k n (mkF m pc' Ls (.long v :: st))) : Wp p l e R s m args below meth c n0 Q h k n (mkF m pc Ls st) := by
  subst hp; exact own_lift (fun T A t q => XS.lloadN A C.1 rfl (hb C.2.2.1 hd) hl q) W
theorem own_aload (C : Cx p s m meth c Z cd ml ret own nm) {i : Nat} {v : Value} (hd : decode cd pc = .ok (.aload i, 2)) (hl : Ls[i]? = some (.val v)) (hv : v.isRef = true) (hp : pc + 2 = pc') (W : Wp p l e R s m args below meth c n0 Q h k n (mkF m pc' Ls (v :: st))) : Wp p l e R s m args below meth c n0 Q h k n (mkF m pc Ls st) := by
  subst hp; exact own_lift (fun T A t q => XS.aload A C.1 rfl (hb C.2.2.1 hd) hl hv q) W
theorem own_aloadN (C : Cx p s m meth c Z cd ml ret own nm) {i : Fin 4} {v : Value} (hd : decode cd pc = .ok (.aload_n i, 1)) (hl : Ls[i.val]? = some (.val v)) (hv : v.isRef = true) (hp : pc + 1 = pc') (W : Wp p l e R s m args below meth c n0 Q h k n (mkF m pc' Ls (v :: st))) : Wp p l e R s m args below meth c n0 Q h k n (mkF m pc Ls st) := by
  subst hp; exact own_lift (fun T A t q => XS.aloadN A C.1 rfl (hb C.2.2.1 hd) hl hv q) W
theorem own_istore (C : Cx p s m meth c Z cd ml ret own nm) {i : Nat} {x y : Int32} (hd : decode cd pc = .ok (.istore i, 2)) (hy : x = y) (hl : storeLocals Ls i (.int y) = some Ls') (hp : pc + 2 = pc') (W : Wp p l e R s m args below meth c n0 Q h k n (mkF m pc' Ls' st)) : Wp p l e R s m args below meth c n0 Q h k n (mkF m pc Ls (.int x :: st)) := by
  subst hp hy; exact own_lift (fun T A t q => XS.istore A C.1 rfl (hb C.2.2.1 hd) rfl hl q) W
theorem own_istoreN (C : Cx p s m meth c Z cd ml ret own nm) {i : Fin 4} {x y : Int32} (hd : decode cd pc = .ok (.istore_n i, 1)) (hy : x = y) (hl : storeLocals Ls i.val (.int y) = some Ls') (hp : pc + 1 = pc') (W : Wp p l e R s m args below meth c n0 Q h k n (mkF m pc' Ls' st)) : Wp p l e R s m args below meth c n0 Q h k n (mkF m pc Ls (.int x :: st)) := by
  subst hp hy; exact own_lift (fun T A t q => XS.istoreN A C.1 rfl (hb C.2.2.1 hd) rfl hl q) W
theorem own_lstore (C : Cx p s m meth c Z cd ml ret own nm) {i : Nat} {x y : Int64} (hd : decode cd pc = .ok (.lstore i, 2)) (hy : x = y) (hl : storeLocals Ls i (.long y) = some Ls') (hp : pc + 2 = pc') (W : Wp p l e R s m args below meth c n0 Q h k n (mkF m pc' Ls' st)) : Wp p l e R s m args below meth c n0 Q h k n (mkF m pc Ls (.long x :: st)) := by
  subst hp hy; exact own_lift (fun T A t q => XS.lstore A C.1 rfl (hb C.2.2.1 hd) rfl hl q) W
theorem own_lstoreN (C : Cx p s m meth c Z cd ml ret own nm) {i : Fin 4} {x y : Int64} (hd : decode cd pc = .ok (.lstore_n i, 1)) (hy : x = y) (hl : storeLocals Ls i.val (.long y) = some Ls') (hp : pc + 1 = pc') (W : Wp p l e R s m args below meth c n0 Q h k n (mkF m pc' Ls' st)) : Wp p l e R s m args below meth c n0 Q h k n (mkF m pc Ls (.long x :: st)) := by
  subst hp hy; exact own_lift (fun T A t q => XS.lstoreN A C.1 rfl (hb C.2.2.1 hd) rfl hl q) W
theorem own_astore (C : Cx p s m meth c Z cd ml ret own nm) {i : Nat} {x : Value} (hd : decode cd pc = .ok (.astore i, 2)) (hv : x.isRef = true) (hl : storeLocals Ls i x = some Ls') (hp : pc + 2 = pc') (W : Wp p l e R s m args below meth c n0 Q h k n (mkF m pc' Ls' st)) : Wp p l e R s m args below meth c n0 Q h k n (mkF m pc Ls (x :: st)) := by
  subst hp; exact own_lift (fun T A t q => XS.astore A C.1 rfl (hb C.2.2.1 hd) rfl hv hl q) W
theorem own_astoreN (C : Cx p s m meth c Z cd ml ret own nm) {i : Fin 4} {x : Value} (hd : decode cd pc = .ok (.astore_n i, 1)) (hv : x.isRef = true) (hl : storeLocals Ls i.val x = some Ls') (hp : pc + 1 = pc') (W : Wp p l e R s m args below meth c n0 Q h k n (mkF m pc' Ls' st)) : Wp p l e R s m args below meth c n0 Q h k n (mkF m pc Ls (x :: st)) := by
  subst hp; exact own_lift (fun T A t q => XS.astoreN A C.1 rfl (hb C.2.2.1 hd) rfl hv hl q) W
theorem own_iconst (C : Cx p s m meth c Z cd ml ret own nm) {i : Int} {v : Int32} (hd : decode cd pc = .ok (.iconst i, 1)) (hv : Int32.ofInt i = v) (hp : pc + 1 = pc') (W : Wp p l e R s m args below meth c n0 Q h k n (mkF m pc' Ls (.int v :: st))) : Wp p l e R s m args below meth c n0 Q h k n (mkF m pc Ls st) := by
  subst hp hv; exact own_lift (fun T A t q => XS.iconst A C.1 rfl (hb C.2.2.1 hd) q) W
theorem own_bipush (C : Cx p s m meth c Z cd ml ret own nm) {i : Int} {v : Int32} (hd : decode cd pc = .ok (.bipush i, 2)) (hv : (Int8.ofInt i).toInt32 = v) (hp : pc + 2 = pc') (W : Wp p l e R s m args below meth c n0 Q h k n (mkF m pc' Ls (.int v :: st))) : Wp p l e R s m args below meth c n0 Q h k n (mkF m pc Ls st) := by
  subst hp hv; exact own_lift (fun T A t q => XS.bipush A C.1 rfl (hb C.2.2.1 hd) q) W
theorem own_sipush (C : Cx p s m meth c Z cd ml ret own nm) {i : Int} {v : Int32} (hd : decode cd pc = .ok (.sipush i, 3)) (hv : (Int16.ofInt i).toInt32 = v) (hp : pc + 3 = pc') (W : Wp p l e R s m args below meth c n0 Q h k n (mkF m pc' Ls (.int v :: st))) : Wp p l e R s m args below meth c n0 Q h k n (mkF m pc Ls st) := by
  subst hp hv; exact own_lift (fun T A t q => XS.sipush A C.1 rfl (hb C.2.2.1 hd) q) W
theorem own_lconst (C : Cx p s m meth c Z cd ml ret own nm) {i : Fin 2} {v : Int64} (hd : decode cd pc = .ok (.lconst i, 1)) (hv : Int64.ofNat i.val = v) (hp : pc + 1 = pc') (W : Wp p l e R s m args below meth c n0 Q h k n (mkF m pc' Ls (.long v :: st))) : Wp p l e R s m args below meth c n0 Q h k n (mkF m pc Ls st) := by
  subst hp hv; exact own_lift (fun T A t q => XS.lconst A C.1 rfl (hb C.2.2.1 hd) q) W
theorem own_null (C : Cx p s m meth c Z cd ml ret own nm) (hd : decode cd pc = .ok (.aconst_null, 1)) (hp : pc + 1 = pc') (W : Wp p l e R s m args below meth c n0 Q h k n (mkF m pc' Ls (.null :: st))) : Wp p l e R s m args below meth c n0 Q h k n (mkF m pc Ls st) := by
  subst hp; exact own_lift (fun T A t q => XS.aconstNull A C.1 rfl (hb C.2.2.1 hd) q) W
/-! returns -/
theorem own_vret (C : Cx p s m meth c Z cd ml none own nm) (hd : decode cd pc = .ok (.return_, 1)) (hk : k ≤ R.cells) (hn : n ≤ R.slots) (hq : Q none h) : Wp p l e R s m args below meth c n0 Q h k n (mkF m pc Ls []) := fun T locs X eT N => by
  obtain ⟨hx, hZ, hby, hml, hown, hret, hlk, hnm⟩ := C
  obtain ⟨fs, hr, hrun, hended, hW, hsame⟩ := X.leave (v := none) (fun _ => rfl) hlk
  exact ⟨_, _, X.returnOut hx hret (hb hby hd) hr, hrun, hended, _, _, rfl, ⟨by rw [show (T.setFrames fs).heap = T.heap from rfl, eT]; exact hq, N⟩, ⟨_, rfl⟩, hW, hsame.mono hk hn⟩
theorem own_iret {z : Int32} (C : Cx p s m meth c Z cd ml (some .int) own nm) (hd : decode cd pc = .ok (.ireturn, 1)) (hk : k ≤ R.cells) (hn : n ≤ R.slots) (hq : Q (some (.int z)) h) : Wp p l e R s m args below meth c n0 Q h k n (mkF m pc Ls (.int z :: st)) := fun T locs X eT N => by
  obtain ⟨hx, hZ, hby, hml, hown, hret, hlk, hnm⟩ := C
  obtain ⟨fs, hr, hrun, hended, hW, hsame⟩ := X.leave (v := some (.int z)) (fun q => by rw [hret] at q; cases q) hlk
  exact ⟨_, _, retI X hx hret (hb hby hd) hr, hrun, hended, _, _, rfl, ⟨by rw [show (T.setFrames fs).heap = T.heap from rfl, eT]; exact hq, N⟩, ⟨_, rfl⟩, hW, hsame.mono hk hn⟩
theorem own_nret {z : Int32} {t : FieldType} (C : Cx p s m meth c Z cd ml (some t) own nm) (ht : t = .boolean ∨ t = .byte ∨ t = .char ∨ t = .short) (hd : decode cd pc = .ok (.ireturn, 1)) (hk : k ≤ R.cells) (hn : n ≤ R.slots) (hq : Q (some (.int (nar t z))) h) : Wp p l e R s m args below meth c n0 Q h k n (mkF m pc Ls (.int z :: st)) := fun T locs X eT N => by
  obtain ⟨hx, hZ, hby, hml, hown, hret, hlk, hnm⟩ := C
  obtain ⟨fs, hr, hrun, hended, hW, hsame⟩ := X.leave (v := some (.int (nar t z))) (fun q => by rw [hret] at q; cases q) hlk
  exact ⟨_, _, retN X hx hret ht (hb hby hd) hr, hrun, hended, _, _, rfl, ⟨by rw [show (T.setFrames fs).heap = T.heap from rfl, eT]; exact hq, N⟩, ⟨_, rfl⟩, hW, hsame.mono hk hn⟩
theorem own_zret {z : Int32} (C : Cx p s m meth c Z cd ml (some .boolean) own nm) (hd : decode cd pc = .ok (.ireturn, 1)) (hk : k ≤ R.cells) (hn : n ≤ R.slots) (hz : z = 0 ∨ z = 1) (hq : Q (some (.int z)) h) : Wp p l e R s m args below meth c n0 Q h k n (mkF m pc Ls (.int z :: st)) :=
  own_nret C (Or.inl rfl) hd hk hn (by rcases hz with rfl | rfl <;> exact hq)
theorem own_lret {z : Int64} (C : Cx p s m meth c Z cd ml (some .long) own nm) (hd : decode cd pc = .ok (.lreturn, 1)) (hk : k ≤ R.cells) (hn : n ≤ R.slots) (hq : Q (some (.long z)) h) : Wp p l e R s m args below meth c n0 Q h k n (mkF m pc Ls [.long z]) := fun T locs X eT N => by
  obtain ⟨hx, hZ, hby, hml, hown, hret, hlk, hnm⟩ := C
  obtain ⟨fs, hr, hrun, hended, hW, hsame⟩ := X.leave (v := some (.long z)) (fun q => by rw [hret] at q; cases q) hlk
  exact ⟨_, _, X.lreturnOut hx hret (hb hby hd) hr, hrun, hended, _, _, rfl, ⟨by rw [show (T.setFrames fs).heap = T.heap from rfl, eT]; exact hq, N⟩, ⟨_, rfl⟩, hW, hsame.mono hk hn⟩
theorem own_aret {z : Value} {t : FieldType} (C : Cx p s m meth c Z cd ml (some t) own nm) (hv : z.isRef = true) (ht : t.isReference = true) (hd : decode cd pc = .ok (.areturn, 1)) (hk : k ≤ R.cells) (hn : n ≤ R.slots) (hq : Q (some z) h) : Wp p l e R s m args below meth c n0 Q h k n (mkF m pc Ls (z :: st)) := fun T locs X eT N => by
  obtain ⟨hx, hZ, hby, hml, hown, hret, hlk, hnm⟩ := C
  obtain ⟨fs, hr, hrun, hended, hW, hsame⟩ := X.leave (v := some z) (fun q => by rw [hret] at q; cases q) hlk
  have hd' := hb hby hd
  refine ⟨_, _, ?_, hrun, hended, _, _, rfl, ⟨by rw [show (T.setFrames fs).heap = T.heap from rfl, eT]; exact hq, N⟩, ⟨_, rfl⟩, hW, hsame.mono hk hn⟩
  jvm_step X.here [X.here.top, hx, hd', X.method', hret, hv, ht]
  first | (intro acts; rw [hr _ acts rfl rfl rfl]) | rw [hr _ _ rfl rfl rfl]
  exact Steps.refl _
theorem own_iadd (C : Cx p s m meth c Z cd ml ret own nm) {x y v : Int32} (hd : decode cd pc = .ok (.iadd, 1)) (hv : x + y = v) (hp : pc + 1 = pc') (W : Wp p l e R s m args below meth c n0 Q h k n (mkF m pc' Ls (.int v :: st))) : Wp p l e R s m args below meth c n0 Q h k n (mkF m pc Ls (.int y :: .int x :: st)) := by
  subst hp hv; exact own_lift (fun T A t q => XS.iadd A C.1 rfl (hb C.2.2.1 hd) rfl q) W
theorem own_isub (C : Cx p s m meth c Z cd ml ret own nm) {x y v : Int32} (hd : decode cd pc = .ok (.isub, 1)) (hv : x - y = v) (hp : pc + 1 = pc') (W : Wp p l e R s m args below meth c n0 Q h k n (mkF m pc' Ls (.int v :: st))) : Wp p l e R s m args below meth c n0 Q h k n (mkF m pc Ls (.int y :: .int x :: st)) := by
  subst hp hv; exact own_lift (fun T A t q => XS.isub A C.1 rfl (hb C.2.2.1 hd) rfl q) W
theorem own_imul (C : Cx p s m meth c Z cd ml ret own nm) {x y v : Int32} (hd : decode cd pc = .ok (.imul, 1)) (hv : x * y = v) (hp : pc + 1 = pc') (W : Wp p l e R s m args below meth c n0 Q h k n (mkF m pc' Ls (.int v :: st))) : Wp p l e R s m args below meth c n0 Q h k n (mkF m pc Ls (.int y :: .int x :: st)) := by
  subst hp hv; exact own_lift (fun T A t q => XS.imul A C.1 rfl (hb C.2.2.1 hd) rfl q) W
theorem own_iand (C : Cx p s m meth c Z cd ml ret own nm) {x y v : Int32} (hd : decode cd pc = .ok (.iand, 1)) (hv : x &&& y = v) (hp : pc + 1 = pc') (W : Wp p l e R s m args below meth c n0 Q h k n (mkF m pc' Ls (.int v :: st))) : Wp p l e R s m args below meth c n0 Q h k n (mkF m pc Ls (.int y :: .int x :: st)) := by
  subst hp hv; exact own_lift (fun T A t q => XS.iand A C.1 rfl (hb C.2.2.1 hd) rfl q) W
theorem own_ior (C : Cx p s m meth c Z cd ml ret own nm) {x y v : Int32} (hd : decode cd pc = .ok (.ior, 1)) (hv : x ||| y = v) (hp : pc + 1 = pc') (W : Wp p l e R s m args below meth c n0 Q h k n (mkF m pc' Ls (.int v :: st))) : Wp p l e R s m args below meth c n0 Q h k n (mkF m pc Ls (.int y :: .int x :: st)) := by
  subst hp hv; exact own_lift (fun T A t q => XS.ior A C.1 rfl (hb C.2.2.1 hd) rfl q) W
theorem own_ixor (C : Cx p s m meth c Z cd ml ret own nm) {x y v : Int32} (hd : decode cd pc = .ok (.ixor, 1)) (hv : x ^^^ y = v) (hp : pc + 1 = pc') (W : Wp p l e R s m args below meth c n0 Q h k n (mkF m pc' Ls (.int v :: st))) : Wp p l e R s m args below meth c n0 Q h k n (mkF m pc Ls (.int y :: .int x :: st)) := by
  subst hp hv; exact own_lift (fun T A t q => XS.ixor A C.1 rfl (hb C.2.2.1 hd) rfl q) W
theorem own_ishl (C : Cx p s m meth c Z cd ml ret own nm) {x y v : Int32} (hd : decode cd pc = .ok (.ishl, 1)) (hv : x <<< (y &&& 31) = v) (hp : pc + 1 = pc') (W : Wp p l e R s m args below meth c n0 Q h k n (mkF m pc' Ls (.int v :: st))) : Wp p l e R s m args below meth c n0 Q h k n (mkF m pc Ls (.int y :: .int x :: st)) := by
  subst hp hv; exact own_lift (fun T A t q => XS.ishl A C.1 rfl (hb C.2.2.1 hd) rfl q) W
theorem own_ishr (C : Cx p s m meth c Z cd ml ret own nm) {x y v : Int32} (hd : decode cd pc = .ok (.ishr, 1)) (hv : x >>> (y &&& 31) = v) (hp : pc + 1 = pc') (W : Wp p l e R s m args below meth c n0 Q h k n (mkF m pc' Ls (.int v :: st))) : Wp p l e R s m args below meth c n0 Q h k n (mkF m pc Ls (.int y :: .int x :: st)) := by
  subst hp hv; exact own_lift (fun T A t q => XS.ishr A C.1 rfl (hb C.2.2.1 hd) rfl q) W
theorem own_iushr (C : Cx p s m meth c Z cd ml ret own nm) {x y v : Int32} (hd : decode cd pc = .ok (.iushr, 1)) (hv : (x.toUInt32 >>> (y &&& 31).toUInt32).toInt32 = v) (hp : pc + 1 = pc') (W : Wp p l e R s m args below meth c n0 Q h k n (mkF m pc' Ls (.int v :: st))) : Wp p l e R s m args below meth c n0 Q h k n (mkF m pc Ls (.int y :: .int x :: st)) := by
  subst hp hv; exact own_lift (fun T A t q => XS.iushr A C.1 rfl (hb C.2.2.1 hd) rfl q) W
theorem own_idiv (C : Cx p s m meth c Z cd ml ret own nm) {x y v : Int32} (hd : decode cd pc = .ok (.idiv, 1)) (hy : y ≠ 0) (hv : x / y = v) (hp : pc + 1 = pc') (W : Wp p l e R s m args below meth c n0 Q h k n (mkF m pc' Ls (.int v :: st))) : Wp p l e R s m args below meth c n0 Q h k n (mkF m pc Ls (.int y :: .int x :: st)) := by
  subst hp hv; exact own_lift (fun T A t q => XS.idiv A C.1 rfl (hb C.2.2.1 hd) rfl hy q) W
theorem own_ladd (C : Cx p s m meth c Z cd ml ret own nm) {x y v : Int64} (hd : decode cd pc = .ok (.ladd, 1)) (hv : x + y = v) (hp : pc + 1 = pc') (W : Wp p l e R s m args below meth c n0 Q h k n (mkF m pc' Ls (.long v :: st))) : Wp p l e R s m args below meth c n0 Q h k n (mkF m pc Ls (.long y :: .long x :: st)) := by
  subst hp hv; exact own_lift (fun T A t q => XS.ladd A C.1 rfl (hb C.2.2.1 hd) rfl q) W
theorem own_lsub (C : Cx p s m meth c Z cd ml ret own nm) {x y v : Int64} (hd : decode cd pc = .ok (.lsub, 1)) (hv : x - y = v) (hp : pc + 1 = pc') (W : Wp p l e R s m args below meth c n0 Q h k n (mkF m pc' Ls (.long v :: st))) : Wp p l e R s m args below meth c n0 Q h k n (mkF m pc Ls (.long y :: .long x :: st)) := by
  subst hp hv; exact own_lift (fun T A t q => XS.lsub A C.1 rfl (hb C.2.2.1 hd) rfl q) W
theorem own_lmul (C : Cx p s m meth c Z cd ml ret own nm) {x y v : Int64} (hd : decode cd pc = .ok (.lmul, 1)) (hv : x * y = v) (hp : pc + 1 = pc') (W : Wp p l e R s m args below meth c n0 Q h k n (mkF m pc' Ls (.long v :: st))) : Wp p l e R s m args below meth c n0 Q h k n (mkF m pc Ls (.long y :: .long x :: st)) := by
  subst hp hv; exact own_lift (fun T A t q => XS.lmul A C.1 rfl (hb C.2.2.1 hd) rfl q) W
theorem own_land (C : Cx p s m meth c Z cd ml ret own nm) {x y v : Int64} (hd : decode cd pc = .ok (.land, 1)) (hv : x &&& y = v) (hp : pc + 1 = pc') (W : Wp p l e R s m args below meth c n0 Q h k n (mkF m pc' Ls (.long v :: st))) : Wp p l e R s m args below meth c n0 Q h k n (mkF m pc Ls (.long y :: .long x :: st)) := by
  subst hp hv; exact own_lift (fun T A t q => XS.land A C.1 rfl (hb C.2.2.1 hd) rfl q) W
theorem own_lor (C : Cx p s m meth c Z cd ml ret own nm) {x y v : Int64} (hd : decode cd pc = .ok (.lor, 1)) (hv : x ||| y = v) (hp : pc + 1 = pc') (W : Wp p l e R s m args below meth c n0 Q h k n (mkF m pc' Ls (.long v :: st))) : Wp p l e R s m args below meth c n0 Q h k n (mkF m pc Ls (.long y :: .long x :: st)) := by
  subst hp hv; exact own_lift (fun T A t q => XS.lor A C.1 rfl (hb C.2.2.1 hd) rfl q) W
theorem own_lxor (C : Cx p s m meth c Z cd ml ret own nm) {x y v : Int64} (hd : decode cd pc = .ok (.lxor, 1)) (hv : x ^^^ y = v) (hp : pc + 1 = pc') (W : Wp p l e R s m args below meth c n0 Q h k n (mkF m pc' Ls (.long v :: st))) : Wp p l e R s m args below meth c n0 Q h k n (mkF m pc Ls (.long y :: .long x :: st)) := by
  subst hp hv; exact own_lift (fun T A t q => XS.lxor A C.1 rfl (hb C.2.2.1 hd) rfl q) W
theorem own_ldiv (C : Cx p s m meth c Z cd ml ret own nm) {x y v : Int64} (hd : decode cd pc = .ok (.ldiv, 1)) (hy : y ≠ 0) (hv : x / y = v) (hp : pc + 1 = pc') (W : Wp p l e R s m args below meth c n0 Q h k n (mkF m pc' Ls (.long v :: st))) : Wp p l e R s m args below meth c n0 Q h k n (mkF m pc Ls (.long y :: .long x :: st)) := by
  subst hp hv; exact own_lift (fun T A t q => XS.ldiv A C.1 rfl (hb C.2.2.1 hd) rfl hy q) W
theorem own_irem (C : Cx p s m meth c Z cd ml ret own nm) {x y v : Int32} (hd : decode cd pc = .ok (.irem, 1)) (hy : y ≠ 0) (hv : x % y = v) (hp : pc + 1 = pc') (W : Wp p l e R s m args below meth c n0 Q h k n (mkF m pc' Ls (.int v :: st))) : Wp p l e R s m args below meth c n0 Q h k n (mkF m pc Ls (.int y :: .int x :: st)) := by
  subst hp hv; exact own_liftX (fun T locs X eT t q => iremM X C.1 rfl (hb C.2.2.1 hd) rfl hy q) W
theorem own_lrem (C : Cx p s m meth c Z cd ml ret own nm) {x y v : Int64} (hd : decode cd pc = .ok (.lrem, 1)) (hy : y ≠ 0) (hv : x % y = v) (hp : pc + 1 = pc') (W : Wp p l e R s m args below meth c n0 Q h k n (mkF m pc' Ls (.long v :: st))) : Wp p l e R s m args below meth c n0 Q h k n (mkF m pc Ls (.long y :: .long x :: st)) := by
  subst hp; rw [← lrem_mod] at hv; subst hv; exact own_lift (fun T A t q => XS.lrem A C.1 rfl (hb C.2.2.1 hd) rfl hy q) W
theorem own_lshl (C : Cx p s m meth c Z cd ml ret own nm) {x v : Int64} {y : Int32} (hd : decode cd pc = .ok (.lshl, 1)) (hv : x <<< (y &&& 0x3f).toInt64 = v) (hp : pc + 1 = pc') (W : Wp p l e R s m args below meth c n0 Q h k n (mkF m pc' Ls (.long v :: st))) : Wp p l e R s m args below meth c n0 Q h k n (mkF m pc Ls (.int y :: .long x :: st)) := by
  subst hp hv; exact own_lift (fun T A t q => XS.lshl A C.1 rfl (hb C.2.2.1 hd) rfl q) W
theorem own_lshr (C : Cx p s m meth c Z cd ml ret own nm) {x v : Int64} {y : Int32} (hd : decode cd pc = .ok (.lshr, 1)) (hv : x >>> (y &&& 0x3f).toInt64 = v) (hp : pc + 1 = pc') (W : Wp p l e R s m args below meth c n0 Q h k n (mkF m pc' Ls (.long v :: st))) : Wp p l e R s m args below meth c n0 Q h k n (mkF m pc Ls (.int y :: .long x :: st)) := by
  subst hp hv; exact own_lift (fun T A t q => XS.lshr A C.1 rfl (hb C.2.2.1 hd) rfl q) W
theorem own_lushr (C : Cx p s m meth c Z cd ml ret own nm) {x v : Int64} {y : Int32} (hd : decode cd pc = .ok (.lushr, 1)) (hv : (x.toUInt64 >>> (y &&& 0x3f).toInt64.toUInt64).toInt64 = v) (hp : pc + 1 = pc') (W : Wp p l e R s m args below meth c n0 Q h k n (mkF m pc' Ls (.long v :: st))) : Wp p l e R s m args below meth c n0 Q h k n (mkF m pc Ls (.int y :: .long x :: st)) := by
  subst hp hv; exact own_lift (fun T A t q => XS.lushr A C.1 rfl (hb C.2.2.1 hd) rfl q) W
theorem own_ineg (C : Cx p s m meth c Z cd ml ret own nm) {x : Int32} {v : Int32} (hd : decode cd pc = .ok (.ineg, 1)) (hv : -x = v) (hp : pc + 1 = pc') (W : Wp p l e R s m args below meth c n0 Q h k n (mkF m pc' Ls (.int v :: st))) : Wp p l e R s m args below meth c n0 Q h k n (mkF m pc Ls (.int x :: st)) := by
  subst hp hv; exact own_lift (fun T A t q => XS.ineg A C.1 rfl (hb C.2.2.1 hd) rfl q) W
theorem own_lneg (C : Cx p s m meth c Z cd ml ret own nm) {x : Int64} {v : Int64} (hd : decode cd pc = .ok (.lneg, 1)) (hv : -x = v) (hp : pc + 1 = pc') (W : Wp p l e R s m args below meth c n0 Q h k n (mkF m pc' Ls (.long v :: st))) : Wp p l e R s m args below meth c n0 Q h k n (mkF m pc Ls (.long x :: st)) := by
  subst hp hv; exact own_lift (fun T A t q => XS.lneg A C.1 rfl (hb C.2.2.1 hd) rfl q) W
theorem own_i2l (C : Cx p s m meth c Z cd ml ret own nm) {x : Int32} {v : Int64} (hd : decode cd pc = .ok (.i2l, 1)) (hv : x.toInt64 = v) (hp : pc + 1 = pc') (W : Wp p l e R s m args below meth c n0 Q h k n (mkF m pc' Ls (.long v :: st))) : Wp p l e R s m args below meth c n0 Q h k n (mkF m pc Ls (.int x :: st)) := by
  subst hp hv; exact own_lift (fun T A t q => XS.i2l A C.1 rfl (hb C.2.2.1 hd) rfl q) W
theorem own_l2i (C : Cx p s m meth c Z cd ml ret own nm) {x : Int64} {v : Int32} (hd : decode cd pc = .ok (.l2i, 1)) (hv : x.toInt32 = v) (hp : pc + 1 = pc') (W : Wp p l e R s m args below meth c n0 Q h k n (mkF m pc' Ls (.int v :: st))) : Wp p l e R s m args below meth c n0 Q h k n (mkF m pc Ls (.long x :: st)) := by
  subst hp hv; exact own_lift (fun T A t q => XS.l2i A C.1 rfl (hb C.2.2.1 hd) rfl q) W
theorem own_i2b (C : Cx p s m meth c Z cd ml ret own nm) {x : Int32} {v : Int32} (hd : decode cd pc = .ok (.i2b, 1)) (hv : x.toInt8.toInt32 = v) (hp : pc + 1 = pc') (W : Wp p l e R s m args below meth c n0 Q h k n (mkF m pc' Ls (.int v :: st))) : Wp p l e R s m args below meth c n0 Q h k n (mkF m pc Ls (.int x :: st)) := by
  subst hp hv; exact own_lift (fun T A t q => XS.i2b A C.1 rfl (hb C.2.2.1 hd) rfl q) W
theorem own_i2s (C : Cx p s m meth c Z cd ml ret own nm) {x : Int32} {v : Int32} (hd : decode cd pc = .ok (.i2s, 1)) (hv : x.toInt16.toInt32 = v) (hp : pc + 1 = pc') (W : Wp p l e R s m args below meth c n0 Q h k n (mkF m pc' Ls (.int v :: st))) : Wp p l e R s m args below meth c n0 Q h k n (mkF m pc Ls (.int x :: st)) := by
  subst hp hv; exact own_lift (fun T A t q => XS.i2s A C.1 rfl (hb C.2.2.1 hd) rfl q) W
theorem own_i2c (C : Cx p s m meth c Z cd ml ret own nm) {x : Int32} {v : Int32} (hd : decode cd pc = .ok (.i2c, 1)) (hv : x.toUInt32.toUInt16.toUInt32.toInt32 = v) (hp : pc + 1 = pc') (W : Wp p l e R s m args below meth c n0 Q h k n (mkF m pc' Ls (.int v :: st))) : Wp p l e R s m args below meth c n0 Q h k n (mkF m pc Ls (.int x :: st)) := by
  subst hp hv; exact own_lift (fun T A t q => XS.i2c A C.1 rfl (hb C.2.2.1 hd) rfl q) W
theorem own_lcmp (C : Cx p s m meth c Z cd ml ret own nm) {x y : Int64} (hd : decode cd pc = .ok (.lcmp, 1)) (hp : pc + 1 = pc') (W : Wp p l e R s m args below meth c n0 Q h k n (mkF m pc' Ls (.int (lcmpW x y) :: st))) : Wp p l e R s m args below meth c n0 Q h k n (mkF m pc Ls (.long y :: .long x :: st)) := by
  subst hp; exact own_lift (fun T A t q => XS.lcmp A C.1 rfl (hb C.2.2.1 hd) rfl q) W
theorem own_dup (C : Cx p s m meth c Z cd ml ret own nm) {x : Value} (hd : decode cd pc = .ok (.dup, 1)) (hc : x.category = 1) (hp : pc + 1 = pc') (W : Wp p l e R s m args below meth c n0 Q h k n (mkF m pc' Ls (x :: x :: st))) : Wp p l e R s m args below meth c n0 Q h k n (mkF m pc Ls (x :: st)) := by
  subst hp; exact own_lift (fun T A t q => XS.dup A C.1 rfl (hb C.2.2.1 hd) rfl hc q) W
theorem own_pop (C : Cx p s m meth c Z cd ml ret own nm) {x : Value} (hd : decode cd pc = .ok (.pop, 1)) (hc : x.category = 1) (hp : pc + 1 = pc') (W : Wp p l e R s m args below meth c n0 Q h k n (mkF m pc' Ls st)) : Wp p l e R s m args below meth c n0 Q h k n (mkF m pc Ls (x :: st)) := by
  subst hp; exact own_lift (fun T A t q => XS.pop A C.1 rfl (hb C.2.2.1 hd) rfl hc q) W
theorem own_dupX1 (C : Cx p s m meth c Z cd ml ret own nm) {x y : Value} (hd : decode cd pc = .ok (.dup_x1, 1)) (hc : x.category = 1) (hc' : y.category = 1) (hp : pc + 1 = pc') (W : Wp p l e R s m args below meth c n0 Q h k n (mkF m pc' Ls (x :: y :: x :: st))) : Wp p l e R s m args below meth c n0 Q h k n (mkF m pc Ls (x :: y :: st)) := by
  subst hp; exact own_lift (fun T A t q => XS.dupX1 A C.1 rfl (hb C.2.2.1 hd) rfl hc hc' q) W
theorem own_dup2 (C : Cx p s m meth c Z cd ml ret own nm) {x y : Value} (hd : decode cd pc = .ok (.dup2, 1)) (hc : x.category = 1) (hc' : y.category = 1) (hp : pc + 1 = pc') (W : Wp p l e R s m args below meth c n0 Q h k n (mkF m pc' Ls (x :: y :: x :: y :: st))) : Wp p l e R s m args below meth c n0 Q h k n (mkF m pc Ls (x :: y :: st)) := by
  subst hp; exact own_lift (fun T A t q => Jvm.Free.XT.dup2 A C.1 rfl (hb C.2.2.1 hd) rfl hc hc' q) W
theorem own_iinc (C : Cx p s m meth c Z cd ml ret own nm) {i : Nat} {d : Int} {x v : Int32} (hd : decode cd pc = .ok (.iinc i d, 3)) (hl : Ls[i]? = some (.val (.int x))) (hv : x + Int32.ofInt d = v) (hl' : storeLocals Ls i (.int v) = some Ls') (hp : pc + 3 = pc') (W : Wp p l e R s m args below meth c n0 Q h k n (mkF m pc' Ls' st)) : Wp p l e R s m args below meth c n0 Q h k n (mkF m pc Ls st) := by
  subst hp hv; exact own_lift (fun T A t q => XS.iinc A C.1 rfl (hb C.2.2.1 hd) hl hl' q) W
theorem own_goto (C : Cx p s m meth c Z cd ml ret own nm) {o : Int} (hd : decode cd pc = .ok (.goto o, 3)) (ho : 0 ≤ (pc : Int) + o) (hp : ((pc : Int) + o).toNat = pc') (W : Wp p l e R s m args below meth c n0 Q h k n (mkF m pc' Ls st)) : Wp p l e R s m args below meth c n0 Q h k n (mkF m pc Ls st) :=
  own_lift (fun T A t q => XS.goto A C.1 rfl (pc0 := pc) (pc' := pc') rfl (hb C.2.2.1 hd) ho hp q) W
theorem own_icmp_lt (C : Cx p s m meth c Z cd ml ret own nm) {o : Int} {x y : Int32} {pt pf : Nat} (hd : decode cd pc = .ok (.if_icmp .lt o, 3)) (ho : 0 ≤ (pc : Int) + o) (hp : ((pc : Int) + o).toNat = pt) (hf : pc + 3 = pf) (WT : x < y → Wp p l e R s m args below meth c n0 Q h k n (mkF m pt Ls st)) (WF : ¬ x < y → Wp p l e R s m args below meth c n0 Q h k n (mkF m pf Ls st)) : Wp p l e R s m args below meth c n0 Q h k n (mkF m pc Ls (.int y :: .int x :: st)) := by
  subst hf
  by_cases g : x < y
  · exact own_lift (fun T A t q => XS.icmpYes A C.1 rfl (pc0 := pc) (pc' := pt) rfl (hb C.2.2.1 hd) rfl (tlt g).1 ho hp q) (WT g)
  · exact own_lift (fun T A t q => XS.icmpNo A C.1 rfl (hb C.2.2.1 hd) rfl (flt g).1 q) (WF g)
theorem own_if_lt (C : Cx p s m meth c Z cd ml ret own nm) {o : Int} {x : Int32} {pt pf : Nat} (hd : decode cd pc = .ok (.ifCond .lt o, 3)) (ho : 0 ≤ (pc : Int) + o) (hp : ((pc : Int) + o).toNat = pt) (hf : pc + 3 = pf) (WT : x < 0 → Wp p l e R s m args below meth c n0 Q h k n (mkF m pt Ls st)) (WF : ¬ x < 0 → Wp p l e R s m args below meth c n0 Q h k n (mkF m pf Ls st)) : Wp p l e R s m args below meth c n0 Q h k n (mkF m pc Ls (.int x :: st)) := by
  subst hf
  by_cases g : x < 0
  · exact own_lift (fun T A t q => XS.ifYes A C.1 rfl (pc0 := pc) (pc' := pt) rfl (hb C.2.2.1 hd) rfl ((if0 _ _).trans (tlt g).1) ho hp q) (WT g)
  · exact own_lift (fun T A t q => XS.ifNo A C.1 rfl (hb C.2.2.1 hd) rfl ((if0 _ _).trans (flt g).1) q) (WF g)
theorem own_lcmp_lt (C : Cx p s m meth c Z cd ml ret own nm) {o : Int} {x y : Int64} {p1 pt pf : Nat} (hd0 : decode cd pc = .ok (.lcmp, 1)) (h1 : pc + 1 = p1) (hd : decode cd p1 = .ok (.ifCond .lt o, 3)) (ho : 0 ≤ (p1 : Int) + o) (hp : ((p1 : Int) + o).toNat = pt) (hf : p1 + 3 = pf) (WT : x < y → Wp p l e R s m args below meth c n0 Q h k n (mkF m pt Ls st)) (WF : ¬ x < y → Wp p l e R s m args below meth c n0 Q h k n (mkF m pf Ls st)) : Wp p l e R s m args below meth c n0 Q h k n (mkF m pc Ls (.long y :: .long x :: st)) :=
  own_lcmp C hd0 h1 (own_if_lt C hd ho hp hf (fun g => WT ((lw_lt x y).mp g)) (fun g => WF (fun q => g ((lw_lt x y).mpr q))))
theorem own_icmp_ge (C : Cx p s m meth c Z cd ml ret own nm) {o : Int} {x y : Int32} {pt pf : Nat} (hd : decode cd pc = .ok (.if_icmp .ge o, 3)) (ho : 0 ≤ (pc : Int) + o) (hp : ((pc : Int) + o).toNat = pt) (hf : pc + 3 = pf) (WT : ¬ x < y → Wp p l e R s m args below meth c n0 Q h k n (mkF m pt Ls st)) (WF : x < y → Wp p l e R s m args below meth c n0 Q h k n (mkF m pf Ls st)) : Wp p l e R s m args below meth c n0 Q h k n (mkF m pc Ls (.int y :: .int x :: st)) := by
  subst hf
  by_cases g : x < y
  · exact own_lift (fun T A t q => XS.icmpNo A C.1 rfl (hb C.2.2.1 hd) rfl (tlt g).2.1 q) (WF g)
  · exact own_lift (fun T A t q => XS.icmpYes A C.1 rfl (pc0 := pc) (pc' := pt) rfl (hb C.2.2.1 hd) rfl (flt g).2.1 ho hp q) (WT g)
theorem own_if_ge (C : Cx p s m meth c Z cd ml ret own nm) {o : Int} {x : Int32} {pt pf : Nat} (hd : decode cd pc = .ok (.ifCond .ge o, 3)) (ho : 0 ≤ (pc : Int) + o) (hp : ((pc : Int) + o).toNat = pt) (hf : pc + 3 = pf) (WT : ¬ x < 0 → Wp p l e R s m args below meth c n0 Q h k n (mkF m pt Ls st)) (WF : x < 0 → Wp p l e R s m args below meth c n0 Q h k n (mkF m pf Ls st)) : Wp p l e R s m args below meth c n0 Q h k n (mkF m pc Ls (.int x :: st)) := by
  subst hf
  by_cases g : x < 0
  · exact own_lift (fun T A t q => XS.ifNo A C.1 rfl (hb C.2.2.1 hd) rfl ((if0 _ _).trans (tlt g).2.1) q) (WF g)
  · exact own_lift (fun T A t q => XS.ifYes A C.1 rfl (pc0 := pc) (pc' := pt) rfl (hb C.2.2.1 hd) rfl ((if0 _ _).trans (flt g).2.1) ho hp q) (WT g)
theorem own_lcmp_ge (C : Cx p s m meth c Z cd ml ret own nm) {o : Int} {x y : Int64} {p1 pt pf : Nat} (hd0 : decode cd pc = .ok (.lcmp, 1)) (h1 : pc + 1 = p1) (hd : decode cd p1 = .ok (.ifCond .ge o, 3)) (ho : 0 ≤ (p1 : Int) + o) (hp : ((p1 : Int) + o).toNat = pt) (hf : p1 + 3 = pf) (WT : ¬ x < y → Wp p l e R s m args below meth c n0 Q h k n (mkF m pt Ls st)) (WF : x < y → Wp p l e R s m args below meth c n0 Q h k n (mkF m pf Ls st)) : Wp p l e R s m args below meth c n0 Q h k n (mkF m pc Ls (.long y :: .long x :: st)) :=
  own_lcmp C hd0 h1 (own_if_ge C hd ho hp hf (fun g => WT (fun q => g ((lw_lt x y).mpr q))) (fun g => WF ((lw_lt x y).mp g)))
theorem own_icmp_gt (C : Cx p s m meth c Z cd ml ret own nm) {o : Int} {x y : Int32} {pt pf : Nat} (hd : decode cd pc = .ok (.if_icmp .gt o, 3)) (ho : 0 ≤ (pc : Int) + o) (hp : ((pc : Int) + o).toNat = pt) (hf : pc + 3 = pf) (WT : y < x → Wp p l e R s m args below meth c n0 Q h k n (mkF m pt Ls st)) (WF : ¬ y < x → Wp p l e R s m args below meth c n0 Q h k n (mkF m pf Ls st)) : Wp p l e R s m args below meth c n0 Q h k n (mkF m pc Ls (.int y :: .int x :: st)) := by
  subst hf
  by_cases g : y < x
  · exact own_lift (fun T A t q => XS.icmpYes A C.1 rfl (pc0 := pc) (pc' := pt) rfl (hb C.2.2.1 hd) rfl (tlt g).2.2.1 ho hp q) (WT g)
  · exact own_lift (fun T A t q => XS.icmpNo A C.1 rfl (hb C.2.2.1 hd) rfl (flt g).2.2.1 q) (WF g)
theorem own_if_gt (C : Cx p s m meth c Z cd ml ret own nm) {o : Int} {x : Int32} {pt pf : Nat} (hd : decode cd pc = .ok (.ifCond .gt o, 3)) (ho : 0 ≤ (pc : Int) + o) (hp : ((pc : Int) + o).toNat = pt) (hf : pc + 3 = pf) (WT : 0 < x → Wp p l e R s m args below meth c n0 Q h k n (mkF m pt Ls st)) (WF : ¬ 0 < x → Wp p l e R s m args below meth c n0 Q h k n (mkF m pf Ls st)) : Wp p l e R s m args below meth c n0 Q h k n (mkF m pc Ls (.int x :: st)) := by
  subst hf
  by_cases g : 0 < x
  · exact own_lift (fun T A t q => XS.ifYes A C.1 rfl (pc0 := pc) (pc' := pt) rfl (hb C.2.2.1 hd) rfl ((if0 _ _).trans (tlt g).2.2.1) ho hp q) (WT g)
  · exact own_lift (fun T A t q => XS.ifNo A C.1 rfl (hb C.2.2.1 hd) rfl ((if0 _ _).trans (flt g).2.2.1) q) (WF g)
theorem own_lcmp_gt (C : Cx p s m meth c Z cd ml ret own nm) {o : Int} {x y : Int64} {p1 pt pf : Nat} (hd0 : decode cd pc = .ok (.lcmp, 1)) (h1 : pc + 1 = p1) (hd : decode cd p1 = .ok (.ifCond .gt o, 3)) (ho : 0 ≤ (p1 : Int) + o) (hp : ((p1 : Int) + o).toNat = pt) (hf : p1 + 3 = pf) (WT : y < x → Wp p l e R s m args below meth c n0 Q h k n (mkF m pt Ls st)) (WF : ¬ y < x → Wp p l e R s m args below meth c n0 Q h k n (mkF m pf Ls st)) : Wp p l e R s m args below meth c n0 Q h k n (mkF m pc Ls (.long y :: .long x :: st)) :=
  own_lcmp C hd0 h1 (own_if_gt C hd ho hp hf (fun g => WT ((lw_gt x y).mp g)) (fun g => WF (fun q => g ((lw_gt x y).mpr q))))
theorem own_icmp_le (C : Cx p s m meth c Z cd ml ret own nm) {o : Int} {x y : Int32} {pt pf : Nat} (hd : decode cd pc = .ok (.if_icmp .le o, 3)) (ho : 0 ≤ (pc : Int) + o) (hp : ((pc : Int) + o).toNat = pt) (hf : pc + 3 = pf) (WT : ¬ y < x → Wp p l e R s m args below meth c n0 Q h k n (mkF m pt Ls st)) (WF : y < x → Wp p l e R s m args below meth c n0 Q h k n (mkF m pf Ls st)) : Wp p l e R s m args below meth c n0 Q h k n (mkF m pc Ls (.int y :: .int x :: st)) := by
  subst hf
  by_cases g : y < x
  · exact own_lift (fun T A t q => XS.icmpNo A C.1 rfl (hb C.2.2.1 hd) rfl (tlt g).2.2.2 q) (WF g)
  · exact own_lift (fun T A t q => XS.icmpYes A C.1 rfl (pc0 := pc) (pc' := pt) rfl (hb C.2.2.1 hd) rfl (flt g).2.2.2 ho hp q) (WT g)
theorem own_if_le (C : Cx p s m meth c Z cd ml ret own nm) {o : Int} {x : Int32} {pt pf : Nat} (hd : decode cd pc = .ok (.ifCond .le o, 3)) (ho : 0 ≤ (pc : Int) + o) (hp : ((pc : Int) + o).toNat = pt) (hf : pc + 3 = pf) (WT : ¬ 0 < x → Wp p l e R s m args below meth c n0 Q h k n (mkF m pt Ls st)) (WF : 0 < x → Wp p l e R s m args below meth c n0 Q h k n (mkF m pf Ls st)) : Wp p l e R s m args below meth c n0 Q h k n (mkF m pc Ls (.int x :: st)) := by
  subst hf
  by_cases g : 0 < x
  · exact own_lift (fun T A t q => XS.ifNo A C.1 rfl (hb C.2.2.1 hd) rfl ((if0 _ _).trans (tlt g).2.2.2) q) (WF g)
  · exact own_lift (fun T A t q => XS.ifYes A C.1 rfl (pc0 := pc) (pc' := pt) rfl (hb C.2.2.1 hd) rfl ((if0 _ _).trans (flt g).2.2.2) ho hp q) (WT g)
theorem own_lcmp_le (C : Cx p s m meth c Z cd ml ret own nm) {o : Int} {x y : Int64} {p1 pt pf : Nat} (hd0 : decode cd pc = .ok (.lcmp, 1)) (h1 : pc + 1 = p1) (hd : decode cd p1 = .ok (.ifCond .le o, 3)) (ho : 0 ≤ (p1 : Int) + o) (hp : ((p1 : Int) + o).toNat = pt) (hf : p1 + 3 = pf) (WT : ¬ y < x → Wp p l e R s m args below meth c n0 Q h k n (mkF m pt Ls st)) (WF : y < x → Wp p l e R s m args below meth c n0 Q h k n (mkF m pf Ls st)) : Wp p l e R s m args below meth c n0 Q h k n (mkF m pc Ls (.long y :: .long x :: st)) :=
  own_lcmp C hd0 h1 (own_if_le C hd ho hp hf (fun g => WT (fun q => g ((lw_gt x y).mpr q))) (fun g => WF ((lw_gt x y).mp g)))
theorem own_icmp_eq (C : Cx p s m meth c Z cd ml ret own nm) {o : Int} {x y : Int32} {pt pf : Nat} (hd : decode cd pc = .ok (.if_icmp .eq o, 3)) (ho : 0 ≤ (pc : Int) + o) (hp : ((pc : Int) + o).toNat = pt) (hf : pc + 3 = pf) (WT : x = y → Wp p l e R s m args below meth c n0 Q h k n (mkF m pt Ls st)) (WF : ¬ x = y → Wp p l e R s m args below meth c n0 Q h k n (mkF m pf Ls st)) : Wp p l e R s m args below meth c n0 Q h k n (mkF m pc Ls (.int y :: .int x :: st)) := by
  subst hf
  by_cases g : x = y
  · exact own_lift (fun T A t q => XS.icmpYes A C.1 rfl (pc0 := pc) (pc' := pt) rfl (hb C.2.2.1 hd) rfl (teq g).1 ho hp q) (WT g)
  · exact own_lift (fun T A t q => XS.icmpNo A C.1 rfl (hb C.2.2.1 hd) rfl (feq g).1 q) (WF g)
theorem own_if_eq (C : Cx p s m meth c Z cd ml ret own nm) {o : Int} {x : Int32} {pt pf : Nat} (hd : decode cd pc = .ok (.ifCond .eq o, 3)) (ho : 0 ≤ (pc : Int) + o) (hp : ((pc : Int) + o).toNat = pt) (hf : pc + 3 = pf) (WT : x = 0 → Wp p l e R s m args below meth c n0 Q h k n (mkF m pt Ls st)) (WF : ¬ x = 0 → Wp p l e R s m args below meth c n0 Q h k n (mkF m pf Ls st)) : Wp p l e R s m args below meth c n0 Q h k n (mkF m pc Ls (.int x :: st)) := by
  subst hf
  by_cases g : x = 0
  · exact own_lift (fun T A t q => XS.ifYes A C.1 rfl (pc0 := pc) (pc' := pt) rfl (hb C.2.2.1 hd) rfl ((if0 _ _).trans (teq g).1) ho hp q) (WT g)
  · exact own_lift (fun T A t q => XS.ifNo A C.1 rfl (hb C.2.2.1 hd) rfl ((if0 _ _).trans (feq g).1) q) (WF g)
theorem own_lcmp_eq (C : Cx p s m meth c Z cd ml ret own nm) {o : Int} {x y : Int64} {p1 pt pf : Nat} (hd0 : decode cd pc = .ok (.lcmp, 1)) (h1 : pc + 1 = p1) (hd : decode cd p1 = .ok (.ifCond .eq o, 3)) (ho : 0 ≤ (p1 : Int) + o) (hp : ((p1 : Int) + o).toNat = pt) (hf : p1 + 3 = pf) (WT : x = y → Wp p l e R s m args below meth c n0 Q h k n (mkF m pt Ls st)) (WF : ¬ x = y → Wp p l e R s m args below meth c n0 Q h k n (mkF m pf Ls st)) : Wp p l e R s m args below meth c n0 Q h k n (mkF m pc Ls (.long y :: .long x :: st)) :=
  own_lcmp C hd0 h1 (own_if_eq C hd ho hp hf (fun g => WT ((lw_eq x y).mp g)) (fun g => WF (fun q => g ((lw_eq x y).mpr q))))
theorem own_icmp_ne (C : Cx p s m meth c Z cd ml ret own nm) {o : Int} {x y : Int32} {pt pf : Nat} (hd : decode cd pc = .ok (.if_icmp .ne o, 3)) (ho : 0 ≤ (pc : Int) + o) (hp : ((pc : Int) + o).toNat = pt) (hf : pc + 3 = pf) (WT : ¬ x = y → Wp p l e R s m args below meth c n0 Q h k n (mkF m pt Ls st)) (WF : x = y → Wp p l e R s m args below meth c n0 Q h k n (mkF m pf Ls st)) : Wp p l e R s m args below meth c n0 Q h k n (mkF m pc Ls (.int y :: .int x :: st)) := by
  subst hf
  by_cases g : x = y
  · exact own_lift (fun T A t q => XS.icmpNo A C.1 rfl (hb C.2.2.1 hd) rfl (teq g).2 q) (WF g)
  · exact own_lift (fun T A t q => XS.icmpYes A C.1 rfl (pc0 := pc) (pc' := pt) rfl (hb C.2.2.1 hd) rfl (feq g).2 ho hp q) (WT g)
theorem own_if_ne (C : Cx p s m meth c Z cd ml ret own nm) {o : Int} {x : Int32} {pt pf : Nat} (hd : decode cd pc = .ok (.ifCond .ne o, 3)) (ho : 0 ≤ (pc : Int) + o) (hp : ((pc : Int) + o).toNat = pt) (hf : pc + 3 = pf) (WT : ¬ x = 0 → Wp p l e R s m args below meth c n0 Q h k n (mkF m pt Ls st)) (WF : x = 0 → Wp p l e R s m args below meth c n0 Q h k n (mkF m pf Ls st)) : Wp p l e R s m args below meth c n0 Q h k n (mkF m pc Ls (.int x :: st)) := by
  subst hf
  by_cases g : x = 0
  · exact own_lift (fun T A t q => XS.ifNo A C.1 rfl (hb C.2.2.1 hd) rfl ((if0 _ _).trans (teq g).2) q) (WF g)
  · exact own_lift (fun T A t q => XS.ifYes A C.1 rfl (pc0 := pc) (pc' := pt) rfl (hb C.2.2.1 hd) rfl ((if0 _ _).trans (feq g).2) ho hp q) (WT g)
theorem own_lcmp_ne (C : Cx p s m meth c Z cd ml ret own nm) {o : Int} {x y : Int64} {p1 pt pf : Nat} (hd0 : decode cd pc = .ok (.lcmp, 1)) (h1 : pc + 1 = p1) (hd : decode cd p1 = .ok (.ifCond .ne o, 3)) (ho : 0 ≤ (p1 : Int) + o) (hp : ((p1 : Int) + o).toNat = pt) (hf : p1 + 3 = pf) (WT : ¬ x = y → Wp p l e R s m args below meth c n0 Q h k n (mkF m pt Ls st)) (WF : x = y → Wp p l e R s m args below meth c n0 Q h k n (mkF m pf Ls st)) : Wp p l e R s m args below meth c n0 Q h k n (mkF m pc Ls (.long y :: .long x :: st)) :=
  own_lcmp C hd0 h1 (own_if_ne C hd ho hp hf (fun g => WT (fun q => g ((lw_eq x y).mpr q))) (fun g => WF ((lw_eq x y).mp g)))
theorem own_acmp_eq (C : Cx p s m meth c Z cd ml ret own nm) {o : Int} {a b : Addr} {pt pf : Nat} (hd : decode cd pc = .ok (.if_acmp .eq o, 3)) (ho : 0 ≤ (pc : Int) + o) (hp : ((pc : Int) + o).toNat = pt) (hf : pc + 3 = pf) (WT : a = b → Wp p l e R s m args below meth c n0 Q h k n (mkF m pt Ls st)) (WF : ¬ a = b → Wp p l e R s m args below meth c n0 Q h k n (mkF m pf Ls st)) : Wp p l e R s m args below meth c n0 Q h k n (mkF m pc Ls (.ref b :: .ref a :: st)) := by
  subst hf
  by_cases g : a = b
  · exact own_lift (fun T A t q => XS.acmpYes A C.1 rfl (pc0 := pc) (pc' := pt) rfl (hb C.2.2.1 hd) rfl (by simp [if_acmp.holds, g]) ho hp q) (WT g)
  · exact own_lift (fun T A t q => XS.acmpNo A C.1 rfl (hb C.2.2.1 hd) rfl (by simp [if_acmp.holds, g]) q) (WF g)
theorem own_acmp_ne (C : Cx p s m meth c Z cd ml ret own nm) {o : Int} {a b : Addr} {pt pf : Nat} (hd : decode cd pc = .ok (.if_acmp .ne o, 3)) (ho : 0 ≤ (pc : Int) + o) (hp : ((pc : Int) + o).toNat = pt) (hf : pc + 3 = pf) (WT : ¬ a = b → Wp p l e R s m args below meth c n0 Q h k n (mkF m pt Ls st)) (WF : a = b → Wp p l e R s m args below meth c n0 Q h k n (mkF m pf Ls st)) : Wp p l e R s m args below meth c n0 Q h k n (mkF m pc Ls (.ref b :: .ref a :: st)) := by
  subst hf
  by_cases g : a = b
  · exact own_lift (fun T A t q => XS.acmpNo A C.1 rfl (hb C.2.2.1 hd) rfl (by simp [if_acmp.holds, g]) q) (WF g)
  · exact own_lift (fun T A t q => XS.acmpYes A C.1 rfl (pc0 := pc) (pc' := pt) rfl (hb C.2.2.1 hd) rfl (by simp [if_acmp.holds, g]) ho hp q) (WT g)
theorem own_ifnull_y (C : Cx p s m meth c Z cd ml ret own nm) {o : Int} {pt : Nat} (hd : decode cd pc = .ok (.ifnull o, 3)) (ho : 0 ≤ (pc : Int) + o) (hp : ((pc : Int) + o).toNat = pt) (W : Wp p l e R s m args below meth c n0 Q h k n (mkF m pt Ls st)) : Wp p l e R s m args below meth c n0 Q h k n (mkF m pc Ls (.null :: st)) :=
  own_lift (fun T A t q => XS.ifnullYes A C.1 rfl (pc0 := pc) (pc' := pt) rfl (hb C.2.2.1 hd) rfl ho hp q) W
theorem own_ifnull_n (C : Cx p s m meth c Z cd ml ret own nm) {o : Int} {a : Addr} (hd : decode cd pc = .ok (.ifnull o, 3)) (hp : pc + 3 = pc') (W : Wp p l e R s m args below meth c n0 Q h k n (mkF m pc' Ls st)) : Wp p l e R s m args below meth c n0 Q h k n (mkF m pc Ls (.ref a :: st)) := by
  subst hp; exact own_lift (fun T A t q => XS.ifnullNo A C.1 rfl (hb C.2.2.1 hd) rfl q) W
theorem own_ifnonnull_y (C : Cx p s m meth c Z cd ml ret own nm) {o : Int} {a : Addr} {pt : Nat} (hd : decode cd pc = .ok (.ifnonnull o, 3)) (ho : 0 ≤ (pc : Int) + o) (hp : ((pc : Int) + o).toNat = pt) (W : Wp p l e R s m args below meth c n0 Q h k n (mkF m pt Ls st)) : Wp p l e R s m args below meth c n0 Q h k n (mkF m pc Ls (.ref a :: st)) :=
  own_lift (fun T A t q => XS.ifnonnullYes A C.1 rfl (pc0 := pc) (pc' := pt) rfl (hb C.2.2.1 hd) rfl ho hp q) W
theorem own_ifnonnull_n (C : Cx p s m meth c Z cd ml ret own nm) {o : Int} (hd : decode cd pc = .ok (.ifnonnull o, 3)) (hp : pc + 3 = pc') (W : Wp p l e R s m args below meth c n0 Q h k n (mkF m pc' Ls st)) : Wp p l e R s m args below meth c n0 Q h k n (mkF m pc Ls (.null :: st)) := by
  subst hp; exact own_lift (fun T A t q => XS.ifnonnullNo A C.1 rfl (hb C.2.2.1 hd) rfl q) W
theorem own_ldc (C : Cx p s m meth c Z cd ml ret own nm) {i : Nat} {v : Int32} (hd : decode cd pc = .ok (.ldc i, 2)) (w : (Jvm.Cond.constant own i v).before a0 Z = true) (hp : pc + 2 = pc') (W : Wp p l e R s m args below meth c n0 Q h k n (mkF m pc' Ls (.int v :: st))) : Wp p l e R s m args below meth c n0 Q h k n (mkF m pc Ls st) := by
  subst hp; exact own_liftX (fun T locs X eT t q => X.ldcInt C.1 C.2.2.2.2.1 (mvT C.2.1 w) (g := mkF m pc Ls st) rfl (hb C.2.2.1 hd) t q) W
theorem own_ldcw (C : Cx p s m meth c Z cd ml ret own nm) {i : Nat} {v : Int32} (hd : decode cd pc = .ok (.ldc_w i, 3)) (w : (Jvm.Cond.constant own i v).before a0 Z = true) (hp : pc + 3 = pc') (W : Wp p l e R s m args below meth c n0 Q h k n (mkF m pc' Ls (.int v :: st))) : Wp p l e R s m args below meth c n0 Q h k n (mkF m pc Ls st) := by
  subst hp; exact own_liftX (fun T locs X eT t q => X.ldcwInt C.1 C.2.2.2.2.1 (mvT C.2.1 w) (g := mkF m pc Ls st) rfl (hb C.2.2.1 hd) t q) W
theorem own_ldc2 (C : Cx p s m meth c Z cd ml ret own nm) {i : Nat} {v : Int64} (hd : decode cd pc = .ok (.ldc2_w i, 3)) (w : (Jvm.Cond.constantLong own i v).before a0 Z = true) (hp : pc + 3 = pc') (W : Wp p l e R s m args below meth c n0 Q h k n (mkF m pc' Ls (.long v :: st))) : Wp p l e R s m args below meth c n0 Q h k n (mkF m pc Ls st) := by
  subst hp; exact own_liftX (fun T locs X eT t q => X.ldc2Long C.1 C.2.2.2.2.1 (mvT C.2.1 w) (g := mkF m pc Ls st) rfl (hb C.2.2.1 hd) t q) W
/-! objects -/
theorem own_getfield (C : Cx p s m meth c Z cd ml ret own nm) {i : Nat} {O f d : String} {a : Addr} {v : Value} (hd : decode cd pc = .ok (.getfield i, 3)) (w : (Jvm.Cond.fieldLink own i O f d).before a0 Z = true) (F : Fld Z h a O f d v) (hp : pc + 3 = pc') (W : Wp p l e R s m args below meth c n0 Q h k n (mkF m pc' Ls (v :: st))) : Wp p l e R s m args below meth c n0 Q h k n (mkF m pc Ls (.ref a :: st)) := fun T locs X eT N => by
  subst hp
  obtain ⟨T', X', e', st'⟩ := getF X C.1 C.2.1 C.2.2.2.2.1 (host := "") (Or.inl w) Via.refl eT F (g := mkF m pc Ls (.ref a :: st)) rfl rfl (hb C.2.2.1 hd)
  obtain ⟨s₂, o, q, r⟩ := W T' locs X' e' N
  exact ⟨s₂, o, st' _ q, r⟩
theorem own_getstatic (C : Cx p s m meth c Z cd ml ret own nm) {i : Nat} {O f d : String} {v : Value} (hd : decode cd pc = .ok (.getstatic i, 3)) (w : (Jvm.Cond.fieldLink own i O f d).before a0 Z = true) (F : Sta Z h O f d v) (hp : pc + 3 = pc') (W : Wp p l e R s m args below meth c n0 Q h k n (mkF m pc' Ls (v :: st))) : Wp p l e R s m args below meth c n0 Q h k n (mkF m pc Ls st) := fun T locs X eT N => by
  subst hp
  obtain ⟨T', X', e', st'⟩ := getS2 X C.1 C.2.1 C.2.2.2.2.1 (host := "") (Or.inl w) Via.refl eT F (g := mkF m pc Ls st) rfl (hb C.2.2.1 hd)
  obtain ⟨s₂, o, q, r⟩ := W T' locs X' e' N
  exact ⟨s₂, o, st' _ q, r⟩
theorem own_putfield (C : Cx p s m meth c Z cd ml ret own nm) {i kk : Nat} {O f d K : String} {ty : FieldType} {a : Addr} {v old : Value} (hd : decode cd pc = .ok (.putfield i, 3)) (w : (Jvm.Cond.fieldLink own i O f d).before a0 Z = true) (F : Fld Z h a O f d old) (E : Exa Z h a K) (L : (Jvm.Cond.lays K O f d).before a0 Z = true ∨ ((Jvm.Cond.laysFinal K O f d).before a0 Z = true ∧ own = O ∧ nm = "<init>")) (wi : (Jvm.Cond.instantiable K kk).before a0 Z = true)
    (hty : parseFieldDescriptor d = some ty) (hn : narrow ty v = v) (hf : fits ty v = true) (ha : n0 ≤ a) (hp : pc + 3 = pc') (W : ∀ h', Wr h h' a (RoadKit.slotOf Z O f d) v → Fld Z h' a O f d v → Wp p l e R s m args below meth c n0 Q h' k n (mkF m pc' Ls st)) : Wp p l e R s m args below meth c n0 Q h k n (mkF m pc Ls (v :: .ref a :: st)) := fun T locs X eT N => by
  subst hp
  obtain ⟨T', h', X', e', Wr', st'⟩ := putF X C.1 C.2.1 C.2.2.2.2.1 (host := "") (Or.inl w) Via.refl eT F E (L.imp id fun q => ⟨q.1, q.2.1, C.2.2.2.2.2.2.2.trans q.2.2⟩) wi hty hn hf (g := mkF m pc Ls (v :: .ref a :: st)) rfl rfl (hb C.2.2.1 hd)
  obtain ⟨s₂, o, q, r⟩ := W h' Wr' (F.same Wr') T' _ X' e' (Fr.snoc X' N ha)
  exact ⟨s₂, o, st' _ q, r⟩
theorem own_new (C : Cx p s m meth c Z cd ml ret own nm) {i nn : Nat} {K : String} (hd : decode cd pc = .ok (.new i, 3)) (w : (Jvm.Cond.classLink own i K).before a0 Z = true) (wi : (Jvm.Cond.instantiable K nn).before a0 Z = true) (wz : (Jvm.Cond.initialized K).before a0 Z = true) (hc : k + 1 ≤ R.cells) (hl : n + nn ≤ R.slots) (hp : pc + 3 = pc')
    (W : ∀ h' a, a = h.size → Ext h h' → Exa Z h' a K → (∀ {O f d : String} {ty : FieldType}, Laid Z a0 K O f d → parseFieldDescriptor d = some ty → Fld Z h' a O f d (defaultValue ty)) → Wp p l e R s m args below meth c n0 Q h' (k + 1) (n + nn) (mkF m pc' Ls (.ref a :: st))) : Wp p l e R s m args below meth c n0 Q h k n (mkF m pc Ls st) := fun T locs X eT N => by
  subst hp
  obtain ⟨T', h', X', e', E', A', D', -, st'⟩ := newO X C.1 C.2.1 C.2.2.2.2.1 w wi wz eT (g := mkF m pc Ls st) rfl (hb C.2.2.1 hd) hc hl
  obtain ⟨s₂, o, q, r⟩ := W h' h.size rfl E' A' D' T' _ X' e' N
  exact ⟨s₂, o, st' _ q, r⟩
/-- java.lang.Object's own constructor -/
theorem own_initO (C : Cx p s m meth c Z cd ml ret own nm) {i : Nat} {wL : Nat} (hd : decode cd pc = .ok (.invokespecial i, 3)) (w1 : (Jvm.Cond.methodLink own i Lib.objectInit).before a0 Z = true) (w2 : (Jvm.Cond.instanceMethod Lib.objectInit).before a0 Z = true) (w3 : (Jvm.Cond.code Lib.objectInit ⟨#[0xb1]⟩ 1 none).before a0 Z = true)
    {a : Addr} (hsz : Ls.size = ml) (hf : 1 ≤ R.frames) (hW : 0 + (st.map fun v => v.category).sum ≤ wL) (hl : wL + 12 ≤ R.locals) (hp : pc + 3 = pc') (W : Wp p l e R s m args below meth c n0 Q h k n (mkF m pc' Ls st)) : Wp p l e R s m args below meth c n0 Q h k n (mkF m pc Ls (.ref a :: st)) := fun T locs X eT N => by
  subst hp
  obtain ⟨T', X', e', st'⟩ := initO X C.1 C.2.1 C.2.2.2.2.1 w1 w2 w3 eT (g := mkF m pc Ls (.ref a :: st)) rfl (by rw [C.2.2.2.1]; exact hsz) rfl (hb C.2.2.1 hd) hf (W := wL) hW hl
  obtain ⟨s₂, o, q, r⟩ := W T' locs X' e' N
  exact ⟨s₂, o, st' _ q, r⟩
/-! arrays: of ints (of any narrow kind), of longs -/
def AI (Z : State) (h : Heap) (a : Addr) (ty : FieldType) (xs : List Int32) : Prop := ∃ cl : Cell, Arr Z h a cl ty ∧ cl.slots = (xs.map Value.int).toArray ∧ xs.length < 2 ^ 31
def AJ (Z : State) (h : Heap) (a : Addr) (xs : List Int64) : Prop := ∃ cl : Cell, Arr Z h a cl .long ∧ cl.slots = (xs.map Value.long).toArray ∧ xs.length < 2 ^ 31
theorem AI.lt {a : Addr} {ty : FieldType} {xs : List Int32} (A : AI Z h a ty xs) : a < h.size := by obtain ⟨cl, A, -⟩ := A; exact A.lt
theorem AJ.lt {a : Addr} {xs : List Int64} (A : AJ Z h a xs) : a < h.size := by obtain ⟨cl, A, -⟩ := A; exact A.lt
theorem AI.ext {h' : Heap} {a : Addr} {ty : FieldType} {xs : List Int32} (A : AI Z h a ty xs) (E : Ext h h') : AI Z h' a ty xs := by obtain ⟨cl, A, r⟩ := A; exact ⟨cl, A.ext E, r⟩
theorem AJ.ext {h' : Heap} {a : Addr} {xs : List Int64} (A : AJ Z h a xs) (E : Ext h h') : AJ Z h' a xs := by obtain ⟨cl, A, r⟩ := A; exact ⟨cl, A.ext E, r⟩
theorem AI.other {h' : Heap} {a b : Addr} {sl : Nat} {v : Value} {ty : FieldType} {xs : List Int32} (A : AI Z h a ty xs) (W : Wr h h' b sl v) (q : a ≠ b) : AI Z h' a ty xs := by obtain ⟨cl, A, r⟩ := A; exact ⟨cl, A.other W q, r⟩
theorem AJ.other {h' : Heap} {a b : Addr} {sl : Nat} {v : Value} {xs : List Int64} (A : AJ Z h a xs) (W : Wr h h' b sl v) (q : a ≠ b) : AJ Z h' a xs := by obtain ⟨cl, A, r⟩ := A; exact ⟨cl, A.other W q, r⟩
theorem AI.keep {h' : Heap} {a : Addr} {ws : List Addr} {ty : FieldType} {xs : List Int32} (A : AI Z h a ty xs) (K : Keep h h' ws) (q : a ∉ ws) : AI Z h' a ty xs := by obtain ⟨cl, A, r⟩ := A; exact ⟨cl, ⟨K.2.1 a cl A.1 q, A.2⟩, r⟩
theorem AJ.keep {h' : Heap} {a : Addr} {ws : List Addr} {xs : List Int64} (A : AJ Z h a xs) (K : Keep h h' ws) (q : a ∉ ws) : AJ Z h' a xs := by obtain ⟨cl, A, r⟩ := A; exact ⟨cl, ⟨K.2.1 a cl A.1 q, A.2⟩, r⟩
theorem AI.same {h' : Heap} {a : Addr} {i : Nat} {x : Int32} {ty : FieldType} {xs : List Int32} (A : AI Z h a ty xs) (W : Wr h h' a i (.int x)) : AI Z h' a ty (xs.set i x) := by
  obtain ⟨cl, A, r1, r2⟩ := A
  exact ⟨_, A.same W, by simp [Cell.setSlot, r1, List.map_set], by simpa using r2⟩
theorem AJ.same {h' : Heap} {a : Addr} {i : Nat} {x : Int64} {xs : List Int64} (A : AJ Z h a xs) (W : Wr h h' a i (.long x)) : AJ Z h' a (xs.set i x) := by
  obtain ⟨cl, A, r1, r2⟩ := A
  exact ⟨_, A.same W, by simp [Cell.setSlot, r1, List.map_set], by simpa using r2⟩
theorem own_iaload (C : Cx p s m meth c Z cd ml ret own nm) {a : Addr} {j v : Int32} {i : Nat} {xs : List Int32} (hd : decode cd pc = .ok (.iaload, 1)) (A : AI Z h a .int xs) (hj : ¬ j < 0) (hi : j.toNatClampNeg = i) (hv : xs[i]? = some v) (hp : pc + 1 = pc') (W : Wp p l e R s m args below meth c n0 Q h k n (mkF m pc' Ls (.int v :: st))) : Wp p l e R s m args below meth c n0 Q h k n (mkF m pc Ls (.int j :: .ref a :: st)) := by
  subst hp hi
  obtain ⟨cl, A, r1, r2⟩ := A
  have hlt := (List.getElem?_eq_some_iff.mp hv).1
  exact own_liftX (fun T locs X eT t q => X.iaload C.1 (j := j) (v := .int v) (by rw [eT]; exact A.1) (State.isArrayOf_alike C.2.1.alike A.2.1) A.2.2 (fun z => z.elim hj fun y => by rw [r1] at y; simp at y; omega) (by rw [r1]; simp [hv]) (g := mkF m pc Ls (.int j :: .ref a :: st)) rfl rfl (hb C.2.2.1 hd) t q) W
theorem own_baload (C : Cx p s m meth c Z cd ml ret own nm) {a : Addr} {j v : Int32} {i : Nat} {xs : List Int32} (hd : decode cd pc = .ok (.baload, 1)) (A : AI Z h a .byte xs) (hj : ¬ j < 0) (hi : j.toNatClampNeg = i) (hv : xs[i]? = some v) (hp : pc + 1 = pc') (W : Wp p l e R s m args below meth c n0 Q h k n (mkF m pc' Ls (.int v :: st))) : Wp p l e R s m args below meth c n0 Q h k n (mkF m pc Ls (.int j :: .ref a :: st)) := by
  subst hp hi
  obtain ⟨cl, A, r1, r2⟩ := A
  have hlt := (List.getElem?_eq_some_iff.mp hv).1
  exact own_liftX (fun T locs X eT t q => X.baloadBytes C.1 (j := j) (v := .int v) (by rw [eT]; exact A.1) (State.isArrayOf_alike C.2.1.alike A.2.1) A.2.2 (fun z => z.elim hj fun y => by rw [r1] at y; simp at y; omega) (by rw [r1]; simp [hv]) (g := mkF m pc Ls (.int j :: .ref a :: st)) rfl rfl (hb C.2.2.1 hd) t q) W
theorem own_laload (C : Cx p s m meth c Z cd ml ret own nm) {a : Addr} {j : Int32} {v : Int64} {i : Nat} {xs : List Int64} (hd : decode cd pc = .ok (.laload, 1)) (A : AJ Z h a xs) (hj : ¬ j < 0) (hi : j.toNatClampNeg = i) (hv : xs[i]? = some v) (hp : pc + 1 = pc') (W : Wp p l e R s m args below meth c n0 Q h k n (mkF m pc' Ls (.long v :: st))) : Wp p l e R s m args below meth c n0 Q h k n (mkF m pc Ls (.int j :: .ref a :: st)) := by
  subst hp hi
  obtain ⟨cl, A, r1, r2⟩ := A
  have hlt := (List.getElem?_eq_some_iff.mp hv).1
  exact own_liftX (fun T locs X eT t q => X.laload C.1 (j := j) (v := .long v) (by rw [eT]; exact A.1) (State.isArrayOf_alike C.2.1.alike A.2.1) A.2.2 (fun z => z.elim hj fun y => by rw [r1] at y; simp at y; omega) (by rw [r1]; simp [hv]) (g := mkF m pc Ls (.int j :: .ref a :: st)) rfl rfl (hb C.2.2.1 hd) t q) W
theorem own_lenI (C : Cx p s m meth c Z cd ml ret own nm) {a : Addr} {v : Int32} {ty : FieldType} {xs : List Int32} (hd : decode cd pc = .ok (.arraylength, 1)) (A : AI Z h a ty xs) (hv : xs.length.toInt32 = v) (hp : pc + 1 = pc') (W : Wp p l e R s m args below meth c n0 Q h k n (mkF m pc' Ls (.int v :: st))) : Wp p l e R s m args below meth c n0 Q h k n (mkF m pc Ls (.ref a :: st)) := by
  subst hp hv
  obtain ⟨cl, A, r1, r2⟩ := A
  have e1 : cl.slots.size = xs.length := by rw [r1]; simp
  exact own_liftX (fun T locs X eT t q => X.arraylength C.1 (by rw [eT]; exact A.1) (State.isArrayOf_alike C.2.1.alike A.2.1) (g := mkF m pc Ls (.ref a :: st)) rfl rfl (hb C.2.2.1 hd) t (by rw [e1]; exact q)) W
theorem own_lenJ (C : Cx p s m meth c Z cd ml ret own nm) {a : Addr} {v : Int32} {xs : List Int64} (hd : decode cd pc = .ok (.arraylength, 1)) (A : AJ Z h a xs) (hv : xs.length.toInt32 = v) (hp : pc + 1 = pc') (W : Wp p l e R s m args below meth c n0 Q h k n (mkF m pc' Ls (.int v :: st))) : Wp p l e R s m args below meth c n0 Q h k n (mkF m pc Ls (.ref a :: st)) := by
  subst hp hv
  obtain ⟨cl, A, r1, r2⟩ := A
  have e1 : cl.slots.size = xs.length := by rw [r1]; simp
  exact own_liftX (fun T locs X eT t q => X.arraylength C.1 (by rw [eT]; exact A.1) (State.isArrayOf_alike C.2.1.alike A.2.1) (g := mkF m pc Ls (.ref a :: st)) rfl rfl (hb C.2.2.1 hd) t (by rw [e1]; exact q)) W
theorem own_iastore (C : Cx p s m meth c Z cd ml ret own nm) {a : Addr} {j x : Int32} {i : Nat} {xs ys : List Int32} (hd : decode cd pc = .ok (.iastore, 1)) (A : AI Z h a .int xs) (hj : ¬ j < 0) (hi : j.toNatClampNeg = i) (hlt : i < xs.length) (hys : xs.set i x = ys) (ha : n0 ≤ a) (hp : pc + 1 = pc') (W : ∀ h', Wr h h' a i (.int x) → AI Z h' a .int ys → Wp p l e R s m args below meth c n0 Q h' k n (mkF m pc' Ls st)) : Wp p l e R s m args below meth c n0 Q h k n (mkF m pc Ls (.int x :: .int j :: .ref a :: st)) := fun T locs X eT N => by
  subst hp hi hys
  have A' := A
  obtain ⟨cl, A, r1, r2⟩ := A
  obtain ⟨T', h', X', e', Wr', st'⟩ := stI X C.1 C.2.1 eT A (j := j) (x := x) (fun z => z.elim hj fun y => by rw [r1] at y; simp at y; omega) (g := mkF m pc Ls (.int x :: .int j :: .ref a :: st)) rfl rfl (hb C.2.2.1 hd)
  obtain ⟨s₂, o, q, r⟩ := W h' Wr' (A'.same Wr') T' _ X' e' (Fr.snoc X' N ha)
  exact ⟨s₂, o, st' _ q, r⟩
theorem own_lastore (C : Cx p s m meth c Z cd ml ret own nm) {a : Addr} {j : Int32} {x : Int64} {i : Nat} {xs ys : List Int64} (hd : decode cd pc = .ok (.lastore, 1)) (A : AJ Z h a xs) (hj : ¬ j < 0) (hi : j.toNatClampNeg = i) (hlt : i < xs.length) (hys : xs.set i x = ys) (ha : n0 ≤ a) (hp : pc + 1 = pc') (W : ∀ h', Wr h h' a i (.long x) → AJ Z h' a ys → Wp p l e R s m args below meth c n0 Q h' k n (mkF m pc' Ls st)) : Wp p l e R s m args below meth c n0 Q h k n (mkF m pc Ls (.long x :: .int j :: .ref a :: st)) := fun T locs X eT N => by
  subst hp hi hys
  have A' := A
  obtain ⟨cl, A, r1, r2⟩ := A
  obtain ⟨T', h', X', e', Wr', st'⟩ := stJ X C.1 C.2.1 eT A (j := j) (x := x) (fun z => z.elim hj fun y => by rw [r1] at y; simp at y; omega) (g := mkF m pc Ls (.long x :: .int j :: .ref a :: st)) rfl rfl (hb C.2.2.1 hd)
  obtain ⟨s₂, o, q, r⟩ := W h' Wr' (A'.same Wr') T' _ X' e' (Fr.snoc X' N ha)
  exact ⟨s₂, o, st' _ q, r⟩
theorem own_bastore (C : Cx p s m meth c Z cd ml ret own nm) {a : Addr} {j x : Int32} {i : Nat} {xs ys : List Int32} (hd : decode cd pc = .ok (.bastore, 1)) (A : AI Z h a .byte xs) (hj : ¬ j < 0) (hi : j.toNatClampNeg = i) (hlt : i < xs.length) (hys : xs.set i (nar .byte x) = ys) (ha : n0 ≤ a) (hp : pc + 1 = pc') (W : ∀ h', Wr h h' a i (.int (nar .byte x)) → AI Z h' a .byte ys → Wp p l e R s m args below meth c n0 Q h' k n (mkF m pc' Ls st)) : Wp p l e R s m args below meth c n0 Q h k n (mkF m pc Ls (.int x :: .int j :: .ref a :: st)) := fun T locs X eT N => by
  subst hp hi hys
  have A' := A
  obtain ⟨cl, A, r1, r2⟩ := A
  obtain ⟨T', h', X', e', Wr', st'⟩ := stB X C.1 C.2.1 eT A (j := j) (x := x) (fun z => z.elim hj fun y => by rw [r1] at y; simp at y; omega) (g := mkF m pc Ls (.int x :: .int j :: .ref a :: st)) rfl rfl (hb C.2.2.1 hd)
  obtain ⟨s₂, o, q, r⟩ := W h' Wr' (A'.same Wr') T' _ X' e' (Fr.snoc X' N ha)
  exact ⟨s₂, o, st' _ q, r⟩
theorem own_newI (C : Cx p s m meth c Z cd ml ret own nm) {aty : ArrayType} {ty : FieldType} {z : Int32} {len cap : Nat} (hd : decode cd pc = .ok (.newarray aty, 2)) (hty : newarray.typeOf aty = ty) (hdv : defaultValue ty = .int 0) (w : (Jvm.Cond.arrayClass ty).before a0 Z = true) (hz : ¬ z < 0) (hlen : z.toNatClampNeg = len) (hcap : len ≤ cap) (hb8 : cap * 8 ≤ 536870912) (hc : k + 1 ≤ R.cells) (hl : n + cap ≤ R.slots) (hp : pc + 2 = pc')
    (W : ∀ h' a, a = h.size → Ext h h' → AI Z h' a ty (List.replicate len 0) → Wp p l e R s m args below meth c n0 Q h' (k + 1) (n + cap) (mkF m pc' Ls (.ref a :: st))) : Wp p l e R s m args below meth c n0 Q h k n (mkF m pc Ls (.int z :: st)) := fun T locs X eT N => by
  subst hp hlen hty
  obtain ⟨T', h', cA, X', e', E', A', st'⟩ := newP X C.1 C.2.1 w eT (g := mkF m pc Ls (.int z :: st)) rfl (hb C.2.2.1 hd) rfl hz hcap hb8 hc hl
  obtain ⟨s₂, o, q, r⟩ := W h' h.size rfl E' ⟨_, A', by simp [newA, hdv], by simp; exact (back32 hz).2⟩ T' _ X' e' N
  exact ⟨s₂, o, st' _ q, r⟩
theorem own_newJ (C : Cx p s m meth c Z cd ml ret own nm) {z : Int32} {len cap : Nat} (hd : decode cd pc = .ok (.newarray .long, 2)) (w : (Jvm.Cond.arrayClass .long).before a0 Z = true) (hz : ¬ z < 0) (hlen : z.toNatClampNeg = len) (hcap : len ≤ cap) (hb8 : cap * 8 ≤ 536870912) (hc : k + 1 ≤ R.cells) (hl : n + cap ≤ R.slots) (hp : pc + 2 = pc')
    (W : ∀ h' a, a = h.size → Ext h h' → AJ Z h' a (List.replicate len 0) → Wp p l e R s m args below meth c n0 Q h' (k + 1) (n + cap) (mkF m pc' Ls (.ref a :: st))) : Wp p l e R s m args below meth c n0 Q h k n (mkF m pc Ls (.int z :: st)) := fun T locs X eT N => by
  subst hp hlen
  obtain ⟨T', h', cA, X', e', E', A', st'⟩ := newP X C.1 C.2.1 (aty := .long) w eT (g := mkF m pc Ls (.int z :: st)) rfl (hb C.2.2.1 hd) rfl hz hcap hb8 hc hl
  obtain ⟨s₂, o, q, r⟩ := W h' h.size rfl E' ⟨_, A', by simp [newA, newarray.typeOf, defaultValue], by simp; exact (back32 hz).2⟩ T' _ X' e' N
  exact ⟨s₂, o, st' _ q, r⟩
/-! calls -/
theorem own_callS (C : Cx p s m meth c Z cd ml ret own nm) {i : Nat} {y : MethodName} {bytes : ByteArray} {mL wL : Nat} {rt : Option FieldType} {rm : Room} {as : Array Value} {Qc : Option Value → Heap → Prop} {argsL rest : List Value}
    (M : Met l y bytes mL rt [] rm Z n0 as h Qc)
    (hd : decode cd pc = .ok (.invokestatic i, 3)) (w1 : (Jvm.Cond.methodLink own i y).before a0 Z = true) (w2 : (Jvm.Cond.static y).before a0 Z = true) (w3 : (Jvm.Cond.initialized y.cls).before a0 Z = true) (w4 : (Jvm.Cond.code y bytes mL rt).before a0 Z = true)
    (hy : y.cls ≠ "java/lang/invoke/MethodHandle" ∧ y.cls ≠ "java/lang/invoke/VarHandle") (hfr : rm.frames + 1 ≤ R.frames) (hlo : wL + (mL + 11) + rm.locals ≤ R.locals) (hsz : Ls.size = ml) (hlen : ∀ sig, parseMethodDescriptor y.desc = some sig → argsL.length = sig.parameters.length)
    (hst : st = argsL.reverse ++ rest) (has : argsL.toArray = as) (hW : 0 + (rest.map fun v => v.category).sum ≤ wL) (hc : k + rm.cells ≤ R.cells) (hs : n + rm.slots ≤ R.slots) (hp : pc + 3 = pc')
    (W : ∀ v h', Qc v h' → Wp p l e R s m args below meth c n0 Q h' (k + rm.cells) (n + rm.slots) (mkF m pc' Ls (v.toList ++ rest))) : Wp p l e R s m args below meth c n0 Q h k n (mkF m pc Ls st) := fun T locs X eT N => by
  subst hp has
  obtain ⟨_, _, ⟨T', L', k', n'⟩, -, X', ⟨Lc, hQ, l1, y1, z1⟩, st'⟩ := Jvm.LawKit.callS X C.1 (y := y) C.2.2.2.2.1 (mvT C.2.1 w1) (mvT C.2.1 w2) (mvT C.2.1 w3) (mvT C.2.1 w4) hy (backOf (W := wL) (Q := fun v h L => Qc v h ∧ Fr n0 L) M C.2.1 w4 w3 hfr hlo) (g := mkF m pc Ls st) rfl (by rw [C.2.2.2.1]; exact hsz) (argsL := argsL) (rest := rest) hlen hst hW (hb C.2.2.1 hd) (fun _ _ => ⟨rfl, eT, hc, hs⟩)
  dsimp only [Pt.U, Pt.locs, Pt.cells, Pt.slots] at X' l1 y1 z1 st' hQ
  subst l1 y1 z1
  obtain ⟨s₂, o, q, r⟩ := W _ _ hQ.1 T' _ X' rfl (Fr.app N hQ.2)
  exact ⟨s₂, o, st' _ q, r⟩
theorem own_callI (C : Cx p s m meth c Z cd ml ret own nm) {i : Nat} {K : String} {dsc : String} {bytes : ByteArray} {mL wL : Nat} {rm : Room} {as : Array Value} {Qc : Option Value → Heap → Prop} {argsL rest : List Value} {a : Addr}
    (M : Met l ⟨K, "<init>", dsc⟩ bytes mL none [] rm Z n0 as h Qc)
    (hd : decode cd pc = .ok (.invokespecial i, 3)) (w1 : (Jvm.Cond.methodLink own i ⟨K, "<init>", dsc⟩).before a0 Z = true) (w2 : (Jvm.Cond.instanceMethod ⟨K, "<init>", dsc⟩).before a0 Z = true) (w3 : (Jvm.Cond.initialized K).before a0 Z = true) (w4 : (Jvm.Cond.code ⟨K, "<init>", dsc⟩ bytes mL none).before a0 Z = true)
    (hy : K ≠ "java/lang/invoke/MethodHandle" ∧ K ≠ "java/lang/invoke/VarHandle") (hfr : rm.frames + 1 ≤ R.frames) (hlo : wL + (mL + 11) + rm.locals ≤ R.locals) (hsz : Ls.size = ml) (hlen : ∀ sig, parseMethodDescriptor dsc = some sig → argsL.length = sig.parameters.length)
    (hst : st = argsL.reverse ++ .ref a :: rest) (has : (Value.ref a :: argsL).toArray = as) (hW : 0 + (rest.map fun v => v.category).sum ≤ wL) (hc : k + rm.cells ≤ R.cells) (hs : n + rm.slots ≤ R.slots) (hp : pc + 3 = pc')
    (W : ∀ v h', Qc v h' → Wp p l e R s m args below meth c n0 Q h' (k + rm.cells) (n + rm.slots) (mkF m pc' Ls (v.toList ++ rest))) : Wp p l e R s m args below meth c n0 Q h k n (mkF m pc Ls st) := fun T locs X eT N => by
  subst hp has
  obtain ⟨_, _, ⟨T', L', k', n'⟩, -, X', ⟨Lc, hQ, l1, y1, z1⟩, st'⟩ := X.specialBack C.1 (y := ⟨K, "<init>", dsc⟩) rfl C.2.2.2.2.1 (mvT C.2.1 w1) (mvT C.2.1 w2) (mvT C.2.1 w4) hy (backOf (W := wL) (Q := fun v h L => Qc v h ∧ Fr n0 L) M C.2.1 w4 w3 hfr hlo) (g := mkF m pc Ls st) rfl (by rw [C.2.2.2.1]; exact hsz) (Steps.refl _) (a := a) (argsL := argsL) (rest := rest) hlen hst hW (hb C.2.2.1 hd) (fun _ _ => ⟨rfl, eT, hc, hs⟩)
  dsimp only [Pt.U, Pt.locs, Pt.cells, Pt.slots] at X' l1 y1 z1 st' hQ
  subst l1 y1 z1
  obtain ⟨s₂, o, q, r⟩ := W _ _ hQ.1 T' _ X' rfl (Fr.app N hQ.2)
  exact ⟨s₂, o, st'.trans q, r⟩
theorem own_callV (C : Cx p s m meth c Z cd ml ret own nm) {i : Nat} {y : MethodName} {bytes : ByteArray} {mL wL : Nat} {rt : Option FieldType} {rm : Room} {as : Array Value} {Qc : Option Value → Heap → Prop} {argsL rest : List Value} {a : Addr}
    (M : Met l y bytes mL rt [] rm Z n0 as h Qc) (E : Exa Z h a y.cls)
    (hd : decode cd pc = .ok (.invokevirtual i, 3)) (w1 : (Jvm.Cond.methodLink own i y).before a0 Z = true) (w2 : (Jvm.Cond.declares y).before a0 Z = true) (w5 : (Jvm.Cond.selects y.cls y y).before a0 Z = true) (w6 : (Jvm.Cond.instanceMethod y).before a0 Z = true) (w3 : (Jvm.Cond.initialized y.cls).before a0 Z = true) (w4 : (Jvm.Cond.code y bytes mL rt).before a0 Z = true)
    (hy : y.cls ≠ "java/lang/invoke/MethodHandle" ∧ y.cls ≠ "java/lang/invoke/VarHandle") (hfr : rm.frames + 1 ≤ R.frames) (hlo : wL + (mL + 11) + rm.locals ≤ R.locals) (hsz : Ls.size = ml) (hlen : ∀ sig, parseMethodDescriptor y.desc = some sig → argsL.length = sig.parameters.length)
    (hst : st = argsL.reverse ++ .ref a :: rest) (has : (Value.ref a :: argsL).toArray = as) (hW : 0 + (rest.map fun v => v.category).sum ≤ wL) (hc : k + rm.cells ≤ R.cells) (hs : n + rm.slots ≤ R.slots) (hp : pc + 3 = pc')
    (W : ∀ v h', Qc v h' → Wp p l e R s m args below meth c n0 Q h' (k + rm.cells) (n + rm.slots) (mkF m pc' Ls (v.toList ++ rest))) : Wp p l e R s m args below meth c n0 Q h k n (mkF m pc Ls st) := fun T locs X eT N => by
  subst hp has
  obtain ⟨cq, kq, qa, qb, qc⟩ := isOf C.2.1 eT E
  obtain ⟨_, _, ⟨T', L', k', n'⟩, -, X', ⟨Lc, hQ, l1, y1, z1⟩, st'⟩ := X.virtualBack C.1 (y := y) (z := y) C.2.2.2.2.1 (mvT C.2.1 w1) (mvT C.2.1 w2) (notFace_of_selects (args := #[]) (mvT C.2.1 w5)) (mvT C.2.1 w5) (mvT C.2.1 w6) hy (backOf (W := wL) (Q := fun v h L => Qc v h ∧ Fr n0 L) M C.2.1 w4 w3 hfr hlo) qa qc (g := mkF m pc Ls st) rfl (by rw [C.2.2.2.1]; exact hsz) (Steps.refl _) (argsL := argsL) (rest := rest) hlen hst hW (hb C.2.2.1 hd) (fun _ _ => ⟨rfl, eT, hc, hs⟩)
  dsimp only [Pt.U, Pt.locs, Pt.cells, Pt.slots] at X' l1 y1 z1 st' hQ
  subst l1 y1 z1
  obtain ⟨s₂, o, q, r⟩ := W _ _ hQ.1 T' _ X' rfl (Fr.app N hQ.2)
  exact ⟨s₂, o, st'.trans q, r⟩
theorem own_callP (C : Cx p s m meth c Z cd ml ret own nm) {i : Nat} {y : MethodName} {bytes : ByteArray} {mL wL : Nat} {rt : Option FieldType} {rm : Room} {as : Array Value} {Qc : Option Value → Heap → Prop} {argsL rest : List Value} {a : Addr}
    (M : Met l y bytes mL rt [] rm Z n0 as h Qc) (E : Exa Z h a y.cls)
    (hd : decode cd pc = .ok (.invokevirtual i, 3)) (w1 : (Jvm.Cond.methodLink own i y).before a0 Z = true) (w2 : (Jvm.Cond.privateMethod y).before a0 Z = true) (w5 : (Jvm.Cond.selects y.cls y y).before a0 Z = true) (w6 : (Jvm.Cond.instanceMethod y).before a0 Z = true) (w3 : (Jvm.Cond.initialized y.cls).before a0 Z = true) (w4 : (Jvm.Cond.code y bytes mL rt).before a0 Z = true)
    (hy : y.cls ≠ "java/lang/invoke/MethodHandle" ∧ y.cls ≠ "java/lang/invoke/VarHandle") (hfr : rm.frames + 1 ≤ R.frames) (hlo : wL + (mL + 11) + rm.locals ≤ R.locals) (hsz : Ls.size = ml) (hlen : ∀ sig, parseMethodDescriptor y.desc = some sig → argsL.length = sig.parameters.length)
    (hst : st = argsL.reverse ++ .ref a :: rest) (has : (Value.ref a :: argsL).toArray = as) (hW : 0 + (rest.map fun v => v.category).sum ≤ wL) (hc : k + rm.cells ≤ R.cells) (hs : n + rm.slots ≤ R.slots) (hp : pc + 3 = pc')
    (W : ∀ v h', Qc v h' → Wp p l e R s m args below meth c n0 Q h' (k + rm.cells) (n + rm.slots) (mkF m pc' Ls (v.toList ++ rest))) : Wp p l e R s m args below meth c n0 Q h k n (mkF m pc Ls st) := fun T locs X eT N => by
  subst hp has
  obtain ⟨cq, q1, q2⟩ := E.cell
  obtain ⟨_, _, ⟨T', L', k', n'⟩, -, X', ⟨Lc, hQ, l1, y1, z1⟩, st'⟩ := X.privateBack C.1 (y := y) C.2.2.2.2.1 (mvT C.2.1 w1) (mvT C.2.1 w6) (mvT C.2.1 w5) (Cond.privateMethod_at (mvP C.2.1 w2 (args := #[]))) (mvT C.2.1 w4) hy (backOf (W := wL) (Q := fun v h L => Qc v h ∧ Fr n0 L) M C.2.1 w4 w3 hfr hlo) (g := mkF m pc Ls st) rfl (by rw [C.2.2.2.1]; exact hsz) (Steps.refl _) (a := a) (by rw [eT]; exact q1) q2 (argsL := argsL) (rest := rest) hlen hst hW (hb C.2.2.1 hd) (fun _ _ => ⟨rfl, eT, hc, hs⟩)
  dsimp only [Pt.U, Pt.locs, Pt.cells, Pt.slots] at X' l1 y1 z1 st' hQ
  subst l1 y1 z1
  obtain ⟨s₂, o, q, r⟩ := W _ _ hQ.1 T' _ X' rfl (Fr.app N hQ.2)
  exact ⟨s₂, o, st'.trans q, r⟩
end OwnKit
def own_f1 (x : Int64) (k : Int32) : Int32 := (((((x.toUInt64 >>> (((5 : Int32) * k) &&& 0x3f).toInt64.toUInt64).toInt64).toInt32) &&& (31 : Int32)) % (10 : Int32))
theorem d1_0 : decode method_3_code 0 = .ok (.lload_n 0, 1) := by decide +kernel
theorem d1_1 : decode method_3_code 1 = .ok (.iconst 5, 1) := by decide +kernel
theorem d1_2 : decode method_3_code 2 = .ok (.iload_n 2, 1) := by decide +kernel
theorem d1_3 : decode method_3_code 3 = .ok (.imul, 1) := by decide +kernel
theorem d1_4 : decode method_3_code 4 = .ok (.lushr, 1) := by decide +kernel
theorem d1_5 : decode method_3_code 5 = .ok (.l2i, 1) := by decide +kernel
theorem d1_6 : decode method_3_code 6 = .ok (.bipush 31, 2) := by decide +kernel
theorem d1_8 : decode method_3_code 8 = .ok (.iand, 1) := by decide +kernel
theorem d1_9 : decode method_3_code 9 = .ok (.bipush 10, 2) := by decide +kernel
theorem d1_11 : decode method_3_code 11 = .ok (.irem, 1) := by decide +kernel
theorem d1_12 : decode method_3_code 12 = .ok (.ireturn, 1) := by decide +kernel
theorem pn1 : plainName "com/example/vestwork/vestwork/io/PlainNumbersWholeNumberPinLaw" = true := by first | (simp [plainName, overriddenIn]; done) | decide +kernel
theorem ef1 (m : MethodId) (x0 : Int64) (x1 : Int32) : entryFrame m #[(.long x0), (.int x1)] 3 = mkF m 0 #[.val (.long x0), .second, .val (.int x1)] [] := by first | (simp [entryFrame, mkF, argsToLocals, Value.category]; done) | rfl
theorem own_ki_5 : Int32.ofInt (5) = (5 : Int32) := by decide
theorem own_kb_31 : (Int8.ofInt (31)).toInt32 = (31 : Int32) := by decide
theorem own_kb_10 : (Int8.ofInt (10)).toInt32 = (10 : Int32) := by decide
set_option maxRecDepth 65536 in
set_option maxHeartbeats 40000000 in
theorem own_m1 (l : Launch) (Z : State) (a0 : Array Value) (hw : ∀ d ∈ tables_1, d.before a0 Z = true) (x : Int64) (k : Int32)  (h0 : Heap) (n0 : Nat) (Z_ : n0 ≤ h0.size)  :
    Met l (⟨"com/example/vestwork/vestwork/io/PlainNumbersWholeNumberPinLaw", "digit", "(JI)I"⟩ : MethodName) method_3_code 3 (some .int) [] ({ frames := 0, cells := 0, slots := 0, locals := 0 } : Room) Z n0 #[(.long x), (.int k)] h0 (fun v h => v = some (.int (own_f1 x k)) ∧ h0 = h) := by
  refine own_met pn1 (fun m => ef1 m x k) ?_
  intro p e s m below meth c C
  refine own_lloadN (pc' := 1) C d1_0 rfl rfl ?_
  refine own_iconst (pc' := 2) (v := (5 : Int32)) C d1_1 own_ki_5 rfl ?_
  refine own_iloadN (pc' := 3) C d1_2 rfl rfl ?_
  refine own_imul (pc' := 4) C d1_3 rfl rfl ?_
  refine own_lushr (pc' := 5) (v := ((x.toUInt64 >>> (((5 : Int32) * k) &&& 0x3f).toInt64.toUInt64).toInt64)) C d1_4 rfl rfl ?_
  refine own_l2i (pc' := 6) C d1_5 rfl rfl ?_
  refine own_bipush (pc' := 8) (v := (31 : Int32)) C d1_6 own_kb_31 rfl ?_
  refine own_iand (pc' := 9) C d1_8 rfl rfl ?_
  refine own_bipush (pc' := 11) (v := (10 : Int32)) C d1_9 own_kb_10 rfl ?_
  refine own_irem (pc' := 12) C d1_11 (by decide) rfl rfl ?_
  refine own_iret C d1_12 (by decide) (by decide) ?_
  exact ⟨by simp only [own_f1], rfl⟩

def own_pw (j : Int32) : Int64 := ([(1 : Int64), (10 : Int64), (100 : Int64), (1000 : Int64), (10000 : Int64), (100000 : Int64), (1000000 : Int64), (10000000 : Int64), (100000000 : Int64)] : List Int64).getD j.toNatClampNeg 0
def own_term (d i f t : Int32) : Int64 := if i < f then 0 else if i < t then d.toInt64 * own_pw (t - 1 - i) else 0
def own_ok (i f t : Int32) : Prop := ¬ i < f → i < t → ¬ (t - 1 - i) < 0 ∧ (t - 1 - i).toNatClampNeg < 9
theorem own_pwat {j : Int32} (h : j.toNatClampNeg < 9) : ([(1 : Int64), (10 : Int64), (100 : Int64), (1000 : Int64), (10000 : Int64), (100000 : Int64), (1000000 : Int64), (10000000 : Int64), (100000000 : Int64)] : List Int64)[j.toNatClampNeg]? = some (own_pw j) := by
  simp only [own_pw, List.getD_eq_getElem?_getD]
  generalize j.toNatClampNeg = q at *
  have : q = 0 ∨ q = 1 ∨ q = 2 ∨ q = 3 ∨ q = 4 ∨ q = 5 ∨ q = 6 ∨ q = 7 ∨ q = 8 := by omega
  rcases this with rfl | rfl | rfl | rfl | rfl | rfl | rfl | rfl | rfl <;> rfl
def own_dig (xs : List Int32) : Nat → Nat → Int32 → Int32
  | _, 0, a => a
  | i, n + 1, a => own_dig xs (i + 1) n (a * 10 + (xs.getD i 0 - 48))

theorem d2_0 : decode method_4_code 0 = .ok (.iload_n 1, 1) := by decide +kernel
theorem d2_1 : decode method_4_code 1 = .ok (.iload_n 2, 1) := by decide +kernel
theorem d2_2 : decode method_4_code 2 = .ok (.if_icmp .lt 20, 3) := by decide +kernel
theorem d2_5 : decode method_4_code 5 = .ok (.iload_n 1, 1) := by decide +kernel
theorem d2_6 : decode method_4_code 6 = .ok (.iload_n 3, 1) := by decide +kernel
theorem d2_7 : decode method_4_code 7 = .ok (.if_icmp .ge 15, 3) := by decide +kernel
theorem d2_10 : decode method_4_code 10 = .ok (.iload_n 0, 1) := by decide +kernel
theorem d2_11 : decode method_4_code 11 = .ok (.i2l, 1) := by decide +kernel
theorem d2_12 : decode method_4_code 12 = .ok (.aload 4, 2) := by decide +kernel
theorem d2_14 : decode method_4_code 14 = .ok (.iload_n 3, 1) := by decide +kernel
theorem d2_15 : decode method_4_code 15 = .ok (.iconst 1, 1) := by decide +kernel
theorem d2_16 : decode method_4_code 16 = .ok (.isub, 1) := by decide +kernel
theorem d2_17 : decode method_4_code 17 = .ok (.iload_n 1, 1) := by decide +kernel
theorem d2_18 : decode method_4_code 18 = .ok (.isub, 1) := by decide +kernel
theorem d2_19 : decode method_4_code 19 = .ok (.laload, 1) := by decide +kernel
theorem d2_20 : decode method_4_code 20 = .ok (.lmul, 1) := by decide +kernel
theorem d2_21 : decode method_4_code 21 = .ok (.lreturn, 1) := by decide +kernel
theorem d2_22 : decode method_4_code 22 = .ok (.lconst 0, 1) := by decide +kernel
theorem d2_23 : decode method_4_code 23 = .ok (.lreturn, 1) := by decide +kernel
theorem pn2 : plainName "com/example/vestwork/vestwork/io/PlainNumbersWholeNumberPinLaw" = true := by first | (simp [plainName, overriddenIn]; done) | decide +kernel
theorem ef2 (m : MethodId) (x0 : Int32) (x1 : Int32) (x2 : Int32) (x3 : Int32) (x4 : Addr) : entryFrame m #[(.int x0), (.int x1), (.int x2), (.int x3), (.ref x4)] 5 = mkF m 0 #[.val (.int x0), .val (.int x1), .val (.int x2), .val (.int x3), .val (.ref x4)] [] := by first | (simp [entryFrame, mkF, argsToLocals, Value.category]; done) | rfl
theorem own_ki_1 : Int32.ofInt (1) = (1 : Int32) := by decide
set_option maxRecDepth 65536 in
set_option maxHeartbeats 40000000 in
theorem own_m2 (l : Launch) (Z : State) (a0 : Array Value) (hw : ∀ d ∈ tables_1, d.before a0 Z = true) (d : Int32) (i : Int32) (f : Int32) (t : Int32) (pw : Addr)  (h0 : Heap) (n0 : Nat) (Z_ : n0 ≤ h0.size) (A_pw : AJ Z h0 pw [(1 : Int64), (10 : Int64), (100 : Int64), (1000 : Int64), (10000 : Int64), (100000 : Int64), (1000000 : Int64), (10000000 : Int64), (100000000 : Int64)]) (own_h : own_ok i f t) :
    Met l (⟨"com/example/vestwork/vestwork/io/PlainNumbersWholeNumberPinLaw", "term", "(IIII[J)J"⟩ : MethodName) method_4_code 5 (some .long) [] ({ frames := 0, cells := 0, slots := 0, locals := 0 } : Room) Z n0 #[(.int d), (.int i), (.int f), (.int t), (.ref pw)] h0 (fun v h => v = some (.long (own_term d i f t)) ∧ h0 = h) := by
  refine own_met pn2 (fun m => ef2 m d i f t pw) ?_
  intro p e s m below meth c C
  refine own_iloadN (pc' := 1) C d2_0 rfl rfl ?_
  refine own_iloadN (pc' := 2) C d2_1 rfl rfl ?_
  refine own_icmp_lt (pt := 22) (pf := 5) C d2_2 (by decide) (by decide) rfl ?_ ?_
  · intro hc2
    refine own_lconst (pc' := 23) (v := (0 : Int64)) C d2_22 (by decide) rfl ?_
    refine own_lret C d2_23 (by decide) (by decide) ?_
    exact ⟨by simp only [own_term, if_pos hc2, if_true, if_false], rfl⟩
  · intro hc2
    refine own_iloadN (pc' := 6) C d2_5 rfl rfl ?_
    refine own_iloadN (pc' := 7) C d2_6 rfl rfl ?_
    refine own_icmp_ge (pt := 22) (pf := 10) C d2_7 (by decide) (by decide) rfl ?_ ?_
    · intro hc7
      refine own_lconst (pc' := 23) (v := (0 : Int64)) C d2_22 (by decide) rfl ?_
      refine own_lret C d2_23 (by decide) (by decide) ?_
      exact ⟨by simp only [own_term, if_neg hc2, if_neg hc7, if_true, if_false], rfl⟩
    · intro hc7
      refine own_iloadN (pc' := 11) C d2_10 rfl rfl ?_
      refine own_i2l (pc' := 12) C d2_11 rfl rfl ?_
      refine own_aload (pc' := 14) C d2_12 rfl rfl rfl ?_
      refine own_iloadN (pc' := 15) C d2_14 rfl rfl ?_
      refine own_iconst (pc' := 16) (v := (1 : Int32)) C d2_15 own_ki_1 rfl ?_
      refine own_isub (pc' := 17) C d2_16 rfl rfl ?_
      refine own_iloadN (pc' := 18) C d2_17 rfl rfl ?_
      refine own_isub (pc' := 19) C d2_18 rfl rfl ?_
      refine own_laload (pc' := 20) (v := (own_pw ((t - (1 : Int32)) - i))) (i := (((t - (1 : Int32)) - i)).toNatClampNeg) C d2_19 A_pw (own_h hc2 hc7).1 rfl (own_pwat (own_h hc2 hc7).2) rfl ?_
      refine own_lmul (pc' := 21) C d2_20 rfl rfl ?_
      refine own_lret C d2_21 (by decide) (by decide) ?_
      exact ⟨by simp only [own_term, if_neg hc2, if_pos hc7, if_true, if_false], rfl⟩

theorem d3_5 : decode prog_100_method_4_code 5 = .ok (.iload 4, 2) := by decide +kernel
theorem d3_7 : decode prog_100_method_4_code 7 = .ok (.iload_n 2, 1) := by decide +kernel
theorem d3_8 : decode prog_100_method_4_code 8 = .ok (.if_icmp .ge 22, 3) := by decide +kernel
theorem d3_11 : decode prog_100_method_4_code 11 = .ok (.iload_n 3, 1) := by decide +kernel
theorem d3_12 : decode prog_100_method_4_code 12 = .ok (.bipush 10, 2) := by decide +kernel
theorem d3_14 : decode prog_100_method_4_code 14 = .ok (.imul, 1) := by decide +kernel
theorem d3_15 : decode prog_100_method_4_code 15 = .ok (.aload_n 0, 1) := by decide +kernel
theorem d3_16 : decode prog_100_method_4_code 16 = .ok (.iload 4, 2) := by decide +kernel
theorem d3_18 : decode prog_100_method_4_code 18 = .ok (.baload, 1) := by decide +kernel
theorem d3_19 : decode prog_100_method_4_code 19 = .ok (.bipush 48, 2) := by decide +kernel
theorem d3_21 : decode prog_100_method_4_code 21 = .ok (.isub, 1) := by decide +kernel
theorem d3_22 : decode prog_100_method_4_code 22 = .ok (.iadd, 1) := by decide +kernel
theorem d3_23 : decode prog_100_method_4_code 23 = .ok (.istore_n 3, 1) := by decide +kernel
theorem d3_24 : decode prog_100_method_4_code 24 = .ok (.iinc 4 1, 3) := by decide +kernel
theorem d3_27 : decode prog_100_method_4_code 27 = .ok (.goto (-22), 3) := by decide +kernel
theorem pn3 : plainName "com/example/vestwork/vestwork/io/PlainNumbers" = true := by first | (simp [plainName, overriddenIn]; done) | decide +kernel
theorem ef3 (m : MethodId) (x0 : Addr) (x1 : Int32) (x2 : Int32) : entryFrame m #[(.ref x0), (.int x1), (.int x2)] 5 = mkF m 0 #[.val (.ref x0), .val (.int x1), .val (.int x2), .unset, .unset] [] := by first | (simp [entryFrame, mkF, argsToLocals, Value.category]; done) | rfl
theorem own_kb_48 : (Int8.ofInt (48)).toInt32 = (48 : Int32) := by decide
theorem own_irr (i : Int32) : ¬ i < i := by rw [Int32.lt_iff_toInt_lt]; omega
theorem own_get {xs : List Int32} {i : Nat} (h : i < xs.length) : xs[i]? = some (xs.getD i 0) := by
  rw [List.getD_eq_getElem?_getD, List.getElem?_eq_getElem h]; rfl
set_option maxRecDepth 65536 in
set_option maxHeartbeats 40000000 in
theorem own_loop {p : Program} {l : Launch} {e : Env} {R : Room} {s : State} {m : MethodId} {args : Array Value} {below : List Frame} {meth : Method} {c : Code} {Z : State} {n0 : Nat} {Q : Option Value → Heap → Prop} {h0 : Heap} {k n : Nat} {a0 : Array Value} (hw : ∀ d ∈ tables_1, d.before a0 Z = true) (C : Cx p s m meth c Z prog_100_method_4_code 5 (some .int) "com/example/vestwork/vestwork/io/PlainNumbers" "wholeNumber") {b : Addr} {f t : Int32} {xs : List Int32} (A_b : AI Z h0 b .byte xs) (ht : t.toInt ≤ xs.length) (j : Nat) :
    ∀ (a i : Int32), 0 ≤ i.toInt → i.toInt + j = t.toInt → Wp p l e R s m args below meth c n0 Q h0 k n (mkF m 30 #[.val (.ref b), .val (.int f), .val (.int t), .val (.int (own_dig xs i.toNatClampNeg j a)), .val (.int t)] []) → Wp p l e R s m args below meth c n0 Q h0 k n (mkF m 5 #[.val (.ref b), .val (.int f), .val (.int t), .val (.int a), .val (.int i)] []) := by
  induction j with
  | zero =>
    intro a i h1 h2 hx
    have e0 : i = t := Int32.toInt_inj.mp (by omega)
    subst e0
    refine own_iload (pc' := 7) C d3_5 rfl rfl ?_
    refine own_iloadN (pc' := 8) C d3_7 rfl rfl ?_
    refine own_icmp_ge (pt := 30) (pf := 11) C d3_8 (by decide) (by decide) rfl (fun _ => ?_) (fun q => absurd q (own_irr i))
    exact hx
  | succ j ih =>
    intro a i h1 h2 hx
    have hlt : i < t := by rw [Int32.lt_iff_toInt_lt]; omega
    have g1 : (i + 1).toInt = i.toInt + 1 := by have := c_iadd i 1; have := rng32 (i + 1); have := rng32 t; have k1 : (1 : Int32).toInt = 1 := rfl; omega
    have hn : ¬ i < 0 := by rw [Int32.lt_iff_toInt_lt]; show ¬ i.toInt < 0; omega
    have hin : i.toNatClampNeg < xs.length := by simp only [Int32.toNatClampNeg]; omega
    have e1 : own_dig xs (i + 1).toNatClampNeg j (a * 10 + (xs.getD i.toNatClampNeg 0 - 48)) = own_dig xs i.toNatClampNeg (j + 1) a := by
      have e2 : (i + 1).toNatClampNeg = i.toNatClampNeg + 1 := by simp only [Int32.toNatClampNeg]; omega
      rw [e2, own_dig]
    refine own_iload (pc' := 7) C d3_5 rfl rfl ?_
    refine own_iloadN (pc' := 8) C d3_7 rfl rfl ?_
    refine own_icmp_ge (pt := 30) (pf := 11) C d3_8 (by decide) (by decide) rfl (fun q => absurd hlt q) (fun _ => ?_)
    refine own_iloadN (pc' := 12) C d3_11 rfl rfl ?_
    refine own_bipush (pc' := 14) (v := (10 : Int32)) C d3_12 own_kb_10 rfl ?_
    refine own_imul (pc' := 15) C d3_14 rfl rfl ?_
    refine own_aloadN (pc' := 16) C d3_15 rfl rfl rfl ?_
    refine own_iload (pc' := 18) C d3_16 rfl rfl ?_
    refine own_baload (pc' := 19) (v := (xs.getD i.toNatClampNeg 0)) (i := i.toNatClampNeg) C d3_18 A_b hn rfl (own_get hin) rfl ?_
    refine own_bipush (pc' := 21) (v := (48 : Int32)) C d3_19 own_kb_48 rfl ?_
    refine own_isub (pc' := 22) C d3_21 rfl rfl ?_
    refine own_iadd (pc' := 23) C d3_22 rfl rfl ?_
    obtain ⟨v3_23, hv3_23⟩ : ∃ z : Int32, z = ((a * (10 : Int32)) + ((xs.getD i.toNatClampNeg 0) - (48 : Int32))) := ⟨_, rfl⟩
    refine own_istoreN (pc' := 24) (y := v3_23) (Ls' := #[.val (.ref b), .val (.int f), .val (.int t), .val (.int v3_23), .val (.int i)]) C d3_23 hv3_23.symm rfl rfl ?_
    obtain ⟨v4_24, hv4_24⟩ : ∃ z : Int32, z = (i + (1 : Int32)) := ⟨_, rfl⟩
    refine own_iinc (pc' := 27) (v := v4_24) (Ls' := #[.val (.ref b), .val (.int f), .val (.int t), .val (.int v3_23), .val (.int v4_24)]) C d3_24 rfl hv4_24.symm rfl rfl ?_
    refine own_goto (pc' := 5) C d3_27 (by decide) (by decide) ?_
    subst hv3_23 hv4_24
    refine ih _ _ (by omega) (by omega) ?_
    rw [e1]
    exact hx

theorem d3_0 : decode prog_100_method_4_code 0 = .ok (.iconst 0, 1) := by decide +kernel
theorem d3_1 : decode prog_100_method_4_code 1 = .ok (.istore_n 3, 1) := by decide +kernel
theorem d3_2 : decode prog_100_method_4_code 2 = .ok (.iload_n 1, 1) := by decide +kernel
theorem d3_3 : decode prog_100_method_4_code 3 = .ok (.istore 4, 2) := by decide +kernel
theorem d3_30 : decode prog_100_method_4_code 30 = .ok (.iload_n 3, 1) := by decide +kernel
theorem d3_31 : decode prog_100_method_4_code 31 = .ok (.ireturn, 1) := by decide +kernel
theorem own_ki_0 : Int32.ofInt (0) = (0 : Int32) := by decide
set_option maxRecDepth 65536 in
set_option maxHeartbeats 40000000 in
theorem own_m3 (l : Launch) (Z : State) (a0 : Array Value) (hw : ∀ d ∈ tables_1, d.before a0 Z = true) (b : Addr) (f : Int32) (t : Int32) (xs : List Int32) (j : Nat) (h0 : Heap) (n0 : Nat) (Z_ : n0 ≤ h0.size) (A_b : AI Z h0 b .byte xs) (ht : t.toInt ≤ xs.length) (h1 : 0 ≤ f.toInt) (h2 : f.toInt + j = t.toInt) :
    Met l (⟨"com/example/vestwork/vestwork/io/PlainNumbers", "wholeNumber", "([BII)I"⟩ : MethodName) prog_100_method_4_code 5 (some .int) [] ({ frames := 0, cells := 0, slots := 0, locals := 0 } : Room) Z n0 #[(.ref b), (.int f), (.int t)] h0 (fun v h => v = some (.int (own_dig xs f.toNatClampNeg j 0)) ∧ h0 = h) := by
  refine own_met pn3 (fun m => ef3 m b f t) ?_
  intro p e s m below meth c C
  refine own_iconst (pc' := 1) (v := (0 : Int32)) C d3_0 own_ki_0 rfl ?_
  refine own_istoreN (pc' := 2) (y := (0 : Int32)) (Ls' := #[.val (.ref b), .val (.int f), .val (.int t), .val (.int (0 : Int32)), .unset]) C d3_1 rfl rfl rfl ?_
  refine own_iloadN (pc' := 3) C d3_2 rfl rfl ?_
  refine own_istore (pc' := 5) (y := f) (Ls' := #[.val (.ref b), .val (.int f), .val (.int t), .val (.int (0 : Int32)), .val (.int f)]) C d3_3 rfl rfl rfl ?_
  refine own_loop hw C A_b ht j _ _ h1 h2 ?_
  refine own_iloadN (pc' := 31) C d3_30 rfl rfl ?_
  refine own_iret C d3_31 (by decide) (by decide) ?_
  exact ⟨rfl, rfl⟩

def own_p (k : Nat) : Int := ([1, 10, 100, 1000, 10000, 100000, 1000000, 10000000, 100000000] : List Int).getD k 0
def own_valI (e : Nat → Int) : Nat → Nat → Int → Int
  | _, 0, a => a
  | i, n + 1, a => own_valI e (i + 1) n (a * 10 + e i)
theorem own_stepI {a y : Int32} {e : Int} (ha : 0 ≤ a.toInt) (hb : a.toInt * 10 + 9 < 2147483648) (hy : y.toInt = 48 + e) (he : 0 ≤ e ∧ e ≤ 9) : (a * 10 + (y - 48)).toInt = a.toInt * 10 + e := by
  have h1 := c_imul a 10; have h2 := c_isub y 48; have h3 := c_iadd (a * 10) (y - 48)
  have k1 : (10 : Int32).toInt = 10 := rfl
  have k2 : (48 : Int32).toInt = 48 := rfl
  rw [k1] at h1; rw [k2] at h2
  have r1 := rng32 (a * 10); have r2 := rng32 (y - 48); have r3 := rng32 (a * 10 + (y - 48))
  omega
theorem own_digI {xs : List Int32} {e : Nat → Int} : ∀ (n i : Nat) (a : Int32), (∀ m, i ≤ m → m < i + n → (xs.getD m 0).toInt = 48 + e m ∧ 0 ≤ e m ∧ e m ≤ 9) → 0 ≤ a.toInt → (a.toInt + 1) * (10 ^ n : Nat) ≤ 1000000000 → (own_dig xs i n a).toInt = own_valI e i n a.toInt
  | 0, i, a, _, _, _ => rfl
  | n + 1, i, a, h, h0, hb => by
    obtain ⟨q1, q2⟩ := h i (Nat.le_refl _) (by omega)
    have hp : (1 : Int) ≤ ((10 ^ n : Nat) : Int) := by have := Nat.pow_le_pow_right (n := 10) (by decide) (Nat.zero_le n); rw [Nat.pow_zero] at this; omega
    rw [Nat.pow_succ] at hb
    generalize hP : (10 ^ n : Nat) = P at hb hp
    have hb' : (a.toInt + 1) * ((P * 10 : Nat) : Int) = ((a.toInt + 1) * 10) * (P : Int) := by rw [Int.natCast_mul]; rw [Int.mul_assoc, Int.mul_comm (P : Int)]; rfl
    rw [hb'] at hb
    have hle : (a.toInt + 1) * 10 ≤ 1000000000 := Int.le_trans (by
      have := Int.mul_le_mul_of_nonneg_left hp (show 0 ≤ (a.toInt + 1) * 10 by omega)
      rw [Int.mul_one] at this; exact this) hb
    have s := own_stepI h0 (by omega) q1 q2
    rw [own_dig, own_valI, own_digI n (i + 1) _ (fun m m1 m2 => h m (by omega) (by omega)) (by omega), s]
    rw [s, hP]
    refine Int.le_trans ?_ hb
    exact Int.mul_le_mul_of_nonneg_right (by omega) (by omega)
theorem own_ft {x z f t : Int32} (hf : f = (1 : Int32) + ((x &&& (2147483647 : Int32)) % (9 : Int32))) (ht : t = ((f + (1 : Int32)) + ((z &&& (2147483647 : Int32)) % ((10 : Int32) - f)))) : 1 ≤ f.toInt ∧ f.toInt ≤ 9 ∧ f.toInt < t.toInt ∧ t.toInt ≤ 10 := by
  have a1 := c_mask x 2147483647 31 (by decide) (by decide)
  have a2 := c_irem (x &&& 2147483647) 9 9 rfl
  have a3 := c_iadd 1 ((x &&& 2147483647) % 9)
  have a4 := rng32 x
  have k1 : (1 : Int32).toInt = 1 := rfl
  have k10 : (10 : Int32).toInt = 10 := rfl
  have a5 := rng32 (1 + (x &&& 2147483647) % 9)
  rw [← hf] at a3 a5
  have b0 : 1 ≤ f.toInt ∧ f.toInt ≤ 9 := by omega
  have b1 := c_isub 10 f
  have b2 := rng32 (10 - f)
  have b3 := c_mask z 2147483647 31 (by decide) (by decide)
  have b4 := rng32 z
  have b5 := (c_iremV (z &&& 2147483647) (10 - f)).1 (by omega) (by omega)
  have b6 := c_iadd f 1
  have b7 := rng32 (f + 1)
  have b8 := c_iadd (f + 1) ((z &&& 2147483647) % (10 - f))
  rw [← ht] at b8
  have b9 := rng32 t
  omega
theorem own_ten {x f : Int32} (hf : f = (1 : Int32) + ((x &&& (2147483647 : Int32)) % (9 : Int32))) : (10 : Int32) - f ≠ 0 := by
  have h := own_ft hf rfl (z := 0)
  intro q
  have b1 := c_isub 10 f
  have k10 : (10 : Int32).toInt = 10 := rfl
  rw [q] at b1
  have k0 : (0 : Int32).toInt = 0 := rfl
  omega
theorem own_oks {x z i f t : Int32} (hf : f = (1 : Int32) + ((x &&& (2147483647 : Int32)) % (9 : Int32))) (ht : t = ((f + (1 : Int32)) + ((z &&& (2147483647 : Int32)) % ((10 : Int32) - f)))) (h1 : 1 ≤ i.toInt) (h2 : i.toInt ≤ 9) : own_ok i f t := by
  intro g1 g2
  have h := own_ft hf ht
  rw [Int32.lt_iff_toInt_lt] at g1 g2
  have a1 := c_isub t 1; have a2 := c_isub (t - 1) i; have r1 := rng32 (t - 1); have r2 := rng32 (t - 1 - i)
  have k1 : (1 : Int32).toInt = 1 := rfl
  have k0 : (0 : Int32).toInt = 0 := rfl
  rw [Int32.lt_iff_toInt_lt]
  simp only [Int32.toNatClampNeg]
  omega
theorem own_pwI (j : Int32) : (own_pw j).toInt = own_p j.toNatClampNeg := by
  simp only [own_pw, own_p]
  generalize j.toNatClampNeg = q
  match q with
  | 0 | 1 | 2 | 3 | 4 | 5 | 6 | 7 | 8 => rfl
  | q + 9 => rfl
theorem own_pb (k : Nat) : 0 ≤ own_p k ∧ own_p k ≤ 100000000 := by
  simp only [own_p]
  match k with
  | 0 | 1 | 2 | 3 | 4 | 5 | 6 | 7 | 8 => decide
  | q + 9 => exact ⟨Int.le_refl 0, by show (0 : Int) ≤ 100000000; decide⟩
theorem own_termI {d i f t : Int32} (hd : 0 ≤ d.toInt ∧ d.toInt ≤ 9) (hi : 1 ≤ i.toInt ∧ i.toInt ≤ 9) (hf : 1 ≤ f.toInt) (ht : t.toInt ≤ 10) : (own_term d i f t).toInt = (if i.toInt < f.toInt then 0 else if i.toInt < t.toInt then d.toInt * own_p (t.toInt - 1 - i.toInt).toNat else 0) := by
  simp only [own_term, Int32.lt_iff_toInt_lt]
  split
  · rfl
  · split
    · rename_i g1 g2
      have a1 := c_isub t 1; have a2 := c_isub (t - 1) i; have r1 := rng32 (t - 1); have r2 := rng32 (t - 1 - i)
      have k1 : (1 : Int32).toInt = 1 := rfl
      have e1 : (t - 1 - i).toNatClampNeg = (t.toInt - 1 - i.toInt).toNat := by simp only [Int32.toNatClampNeg]; omega
      have m1 := c_lmul d.toInt64 (own_pw (t - 1 - i))
      rw [c_i2l, own_pwI, e1] at m1
      have pb := own_pb (t.toInt - 1 - i.toInt).toNat
      generalize own_p (t.toInt - 1 - i.toInt).toNat = P at *
      have m2 := rng64 (d.toInt64 * own_pw (t - 1 - i))
      have m3 : 0 ≤ d.toInt * P := Int.mul_nonneg hd.1 pb.1
      have m4 : d.toInt * P ≤ 9 * 100000000 := Int.le_trans (Int.mul_le_mul_of_nonneg_right hd.2 pb.1) (Int.mul_le_mul_of_nonneg_left pb.2 (by decide))
      omega
    · rfl
theorem own_termB {d i f t : Int32} (hd : 0 ≤ d.toInt ∧ d.toInt ≤ 9) (hi : 1 ≤ i.toInt ∧ i.toInt ≤ 9) (hf : 1 ≤ f.toInt) (ht : t.toInt ≤ 10) : 0 ≤ (own_term d i f t).toInt ∧ (own_term d i f t).toInt ≤ 900000000 := by
  rw [own_termI hd hi hf ht]
  split
  · omega
  · split
    · have pb := own_pb (t.toInt - 1 - i.toInt).toNat
      exact ⟨Int.mul_nonneg hd.1 pb.1, Int.le_trans (Int.mul_le_mul_of_nonneg_right hd.2 pb.1) (Int.mul_le_mul_of_nonneg_left pb.2 (by decide))⟩
    · omega
theorem own_sumI {a b : Int64} {A : Int} (hA : 0 ≤ a.toInt ∧ a.toInt ≤ A) (hB : 0 ≤ b.toInt ∧ b.toInt ≤ 900000000) (h : A ≤ 9000000000) : (a + b).toInt = a.toInt + b.toInt ∧ 0 ≤ (a + b).toInt ∧ (a + b).toInt ≤ A + 900000000 := by
  have h1 := c_ladd a b; have h2 := rng64 (a + b); omega
theorem own_dgB {x : Int64} {k d : Int32} (h : d = own_f1 x k) : 0 ≤ d.toInt ∧ d.toInt ≤ 9 := by
  rw [h]
  simp only [own_f1]
  generalize (x.toUInt64 >>> _).toInt64.toInt32 = q
  have h1 := c_and q 31 (by decide)
  have h2 := c_irem (q &&& 31) 10 10 rfl
  have k1 : (31 : Int32).toInt = 31 := rfl
  omega
theorem own_ascii {d y : Int32} (hd : 0 ≤ d.toInt ∧ d.toInt ≤ 9) (h : y = nar .byte (((48 : Int32) + d).toInt8.toInt32)) : y.toInt = 48 + d.toInt := by
  have h1 := c_iadd 48 d; have h2 := rng32 (48 + d)
  have k1 : (48 : Int32).toInt = 48 := rfl
  have h3 := c_i2b (48 + d); have h4 := c_i2b ((48 + d).toInt8.toInt32)
  have h5 : y = ((48 + d).toInt8.toInt32).toInt8.toInt32 := h
  rw [h5]
  omega
theorem own_plain {x z f t d1 d2 d3 d4 d5 d6 d7 d8 d9 y0 y1 y2 y3 y4 y5 y6 y7 y8 y9 y10 got : Int32} {dg : Int64} {ref : Int64} {k1 k2 k3 k4 k5 k6 k7 k8 k9 : Int32}
    (hf : f = (1 : Int32) + ((x &&& (2147483647 : Int32)) % (9 : Int32))) (ht : t = ((f + (1 : Int32)) + ((z &&& (2147483647 : Int32)) % ((10 : Int32) - f))))
    (hd1 : d1 = own_f1 dg k1) (hd2 : d2 = own_f1 dg k2) (hd3 : d3 = own_f1 dg k3) (hd4 : d4 = own_f1 dg k4) (hd5 : d5 = own_f1 dg k5) (hd6 : d6 = own_f1 dg k6) (hd7 : d7 = own_f1 dg k7) (hd8 : d8 = own_f1 dg k8) (hd9 : d9 = own_f1 dg k9)
    (hy1 : y1 = nar .byte (((48 : Int32) + d1).toInt8.toInt32)) (hy2 : y2 = nar .byte (((48 : Int32) + d2).toInt8.toInt32)) (hy3 : y3 = nar .byte (((48 : Int32) + d3).toInt8.toInt32)) (hy4 : y4 = nar .byte (((48 : Int32) + d4).toInt8.toInt32)) (hy5 : y5 = nar .byte (((48 : Int32) + d5).toInt8.toInt32)) (hy6 : y6 = nar .byte (((48 : Int32) + d6).toInt8.toInt32)) (hy7 : y7 = nar .byte (((48 : Int32) + d7).toInt8.toInt32)) (hy8 : y8 = nar .byte (((48 : Int32) + d8).toInt8.toInt32)) (hy9 : y9 = nar .byte (((48 : Int32) + d9).toInt8.toInt32))
    (hg : got = own_dig [y0, y1, y2, y3, y4, y5, y6, y7, y8, y9, y10] f.toNatClampNeg (t.toInt - f.toInt).toNat 0)
    (hr : ref = own_term d1 1 f t + own_term d2 2 f t + own_term d3 3 f t + own_term d4 4 f t + own_term d5 5 f t + own_term d6 6 f t + own_term d7 7 f t + own_term d8 8 f t + own_term d9 9 f t) : got.toInt64 = ref := by
  obtain ⟨b1, b2, b3, b4⟩ := own_ft hf ht
  have c1 := own_dgB hd1; have c2 := own_dgB hd2; have c3 := own_dgB hd3; have c4 := own_dgB hd4; have c5 := own_dgB hd5; have c6 := own_dgB hd6; have c7 := own_dgB hd7; have c8 := own_dgB hd8; have c9 := own_dgB hd9
  have a1 := own_ascii c1 hy1; have a2 := own_ascii c2 hy2; have a3 := own_ascii c3 hy3; have a4 := own_ascii c4 hy4; have a5 := own_ascii c5 hy5; have a6 := own_ascii c6 hy6; have a7 := own_ascii c7 hy7; have a8 := own_ascii c8 hy8; have a9 := own_ascii c9 hy9
  have B : ∀ (i d : Int32), 1 ≤ i.toInt ∧ i.toInt ≤ 9 → 0 ≤ d.toInt ∧ d.toInt ≤ 9 → 0 ≤ (own_term d i f t).toInt ∧ (own_term d i f t).toInt ≤ 900000000 := fun i d hi hd => own_termB hd hi b1 b4
  have s2 := own_sumI (B 1 d1 (by decide) c1) (B 2 d2 (by decide) c2) (by decide)
  have s3 := own_sumI s2.2 (B 3 d3 (by decide) c3) (by decide)
  have s4 := own_sumI s3.2 (B 4 d4 (by decide) c4) (by decide)
  have s5 := own_sumI s4.2 (B 5 d5 (by decide) c5) (by decide)
  have s6 := own_sumI s5.2 (B 6 d6 (by decide) c6) (by decide)
  have s7 := own_sumI s6.2 (B 7 d7 (by decide) c7) (by decide)
  have s8 := own_sumI s7.2 (B 8 d8 (by decide) c8) (by decide)
  have s9 := own_sumI s8.2 (B 9 d9 (by decide) c9) (by decide)
  have tot : ref.toInt = (own_term d1 1 f t).toInt + (own_term d2 2 f t).toInt + (own_term d3 3 f t).toInt + (own_term d4 4 f t).toInt + (own_term d5 5 f t).toInt + (own_term d6 6 f t).toInt + (own_term d7 7 f t).toInt + (own_term d8 8 f t).toInt + (own_term d9 9 f t).toInt := by rw [hr, s9.1, s8.1, s7.1, s6.1, s5.1, s4.1, s3.1, s2.1]
  clear s2 s3 s4 s5 s6 s7 s8 s9
  have E : ∀ m : Nat, f.toNatClampNeg ≤ m → m < f.toNatClampNeg + (t.toInt - f.toInt).toNat → (([y0, y1, y2, y3, y4, y5, y6, y7, y8, y9, y10] : List Int32).getD m 0).toInt = 48 + (([0, d1.toInt, d2.toInt, d3.toInt, d4.toInt, d5.toInt, d6.toInt, d7.toInt, d8.toInt, d9.toInt] : List Int).getD m 0) ∧ 0 ≤ (([0, d1.toInt, d2.toInt, d3.toInt, d4.toInt, d5.toInt, d6.toInt, d7.toInt, d8.toInt, d9.toInt] : List Int).getD m 0) ∧ (([0, d1.toInt, d2.toInt, d3.toInt, d4.toInt, d5.toInt, d6.toInt, d7.toInt, d8.toInt, d9.toInt] : List Int).getD m 0) ≤ 9 := fun m m1 m2 => by
    simp only [Int32.toNatClampNeg] at m1 m2
    have hm : m = 1 ∨ m = 2 ∨ m = 3 ∨ m = 4 ∨ m = 5 ∨ m = 6 ∨ m = 7 ∨ m = 8 ∨ m = 9 := by omega
    rcases hm with rfl | rfl | rfl | rfl | rfl | rfl | rfl | rfl | rfl
    · exact ⟨a1, c1⟩
    · exact ⟨a2, c2⟩
    · exact ⟨a3, c3⟩
    · exact ⟨a4, c4⟩
    · exact ⟨a5, c5⟩
    · exact ⟨a6, c6⟩
    · exact ⟨a7, c7⟩
    · exact ⟨a8, c8⟩
    · exact ⟨a9, c9⟩
  have G := own_digI (e := fun m => ([0, d1.toInt, d2.toInt, d3.toInt, d4.toInt, d5.toInt, d6.toInt, d7.toInt, d8.toInt, d9.toInt] : List Int).getD m 0) _ _ 0 E (by decide) (by
    have h9 : (t.toInt - f.toInt).toNat ≤ 9 := by omega
    have hp : (10 ^ (t.toInt - f.toInt).toNat : Nat) ≤ 10 ^ 9 := Nat.pow_le_pow_right (by decide) h9
    have k0 : (0 : Int32).toInt = 0 := rfl
    rw [k0]; omega)
  rw [← hg] at G
  rw [← Int64.toInt_inj, c_i2l, tot, G]
  have K : (0 : Int32).toInt = 0 := rfl
  have i1 : (1 : Int32).toInt = 1 := rfl
  have i2 : (2 : Int32).toInt = 2 := rfl
  have i3 : (3 : Int32).toInt = 3 := rfl
  have i4 : (4 : Int32).toInt = 4 := rfl
  have i5 : (5 : Int32).toInt = 5 := rfl
  have i6 : (6 : Int32).toInt = 6 := rfl
  have i7 : (7 : Int32).toInt = 7 := rfl
  have i8 : (8 : Int32).toInt = 8 := rfl
  have i9 : (9 : Int32).toInt = 9 := rfl
  rw [own_termI c1 (by decide) b1 b4, own_termI c2 (by decide) b1 b4, own_termI c3 (by decide) b1 b4, own_termI c4 (by decide) b1 b4, own_termI c5 (by decide) b1 b4, own_termI c6 (by decide) b1 b4, own_termI c7 (by decide) b1 b4, own_termI c8 (by decide) b1 b4, own_termI c9 (by decide) b1 b4]
  simp only [K, i1, i2, i3, i4, i5, i6, i7, i8, i9, Int32.toNatClampNeg]
  clear tot G E hg hr hy1 hy2 hy3 hy4 hy5 hy6 hy7 hy8 hy9 hd1 hd2 hd3 hd4 hd5 hd6 hd7 hd8 hd9 a1 a2 a3 a4 a5 a6 a7 a8 a9 B hf ht
  generalize f.toInt = F at *
  generalize t.toInt = T at *
  generalize d1.toInt = D1 at *
  generalize d2.toInt = D2 at *
  generalize d3.toInt = D3 at *
  generalize d4.toInt = D4 at *
  generalize d5.toInt = D5 at *
  generalize d6.toInt = D6 at *
  generalize d7.toInt = D7 at *
  generalize d8.toInt = D8 at *
  generalize d9.toInt = D9 at *
  have hF : F = 1 ∨ F = 2 ∨ F = 3 ∨ F = 4 ∨ F = 5 ∨ F = 6 ∨ F = 7 ∨ F = 8 ∨ F = 9 := by omega
  have hT : T = 2 ∨ T = 3 ∨ T = 4 ∨ T = 5 ∨ T = 6 ∨ T = 7 ∨ T = 8 ∨ T = 9 ∨ T = 10 := by omega
  rcases hF with rfl | rfl | rfl | rfl | rfl | rfl | rfl | rfl | rfl <;> rcases hT with rfl | rfl | rfl | rfl | rfl | rfl | rfl | rfl | rfl <;> first | (exfalso; omega) | (simp [own_valI, own_p]; done) | (simp [own_valI, own_p]; omega)

theorem pn0 : plainName "com/example/vestwork/vestwork/io/PlainNumbersWholeNumberPinLaw" = true := by first | (simp [plainName, overriddenIn]; done) | decide +kernel
theorem ef0 (m : MethodId) (x0 : Int64) (x1 : Int32) (x2 : Int32) (x3 : Int32) (x4 : Int32) : entryFrame m #[(.long x0), (.int x1), (.int x2), (.int x3), (.int x4)] maxLocals = mkF m 0 #[.val (.long x0), .second, .val (.int x1), .val (.int x2), .val (.int x3), .val (.int x4), .unset, .unset, .unset, .unset, .unset, .unset, .unset, .unset, .unset, .unset, .unset, .unset, .unset, .unset, .unset, .unset] [] := by first | (simp [entryFrame, mkF, argsToLocals, Value.category, maxLocals]; done) | rfl
theorem pd1 : parseMethodDescriptor "(JI)I" = some ⟨[.long, .int], some .int⟩ := by decide +kernel
theorem pd2 : parseMethodDescriptor "(IIII[J)J" = some ⟨[.int, .int, .int, .int, (.array .long)], some .long⟩ := by decide +kernel
theorem pd3 : parseMethodDescriptor "([BII)I" = some ⟨[(.array .byte), .int, .int], some .int⟩ := by decide +kernel
theorem own_kb_11 : (Int8.ofInt (11)).toInt32 = (11 : Int32) := by decide
theorem own_ki_2 : Int32.ofInt (2) = (2 : Int32) := by decide
theorem own_ki_3 : Int32.ofInt (3) = (3 : Int32) := by decide
theorem own_ki_4 : Int32.ofInt (4) = (4 : Int32) := by decide
theorem own_kb_6 : (Int8.ofInt (6)).toInt32 = (6 : Int32) := by decide
theorem own_kb_7 : (Int8.ofInt (7)).toInt32 = (7 : Int32) := by decide
theorem own_kb_8 : (Int8.ofInt (8)).toInt32 = (8 : Int32) := by decide
theorem own_kb_9 : (Int8.ofInt (9)).toInt32 = (9 : Int32) := by decide
set_option maxRecDepth 65536 in
set_option maxHeartbeats 40000000 in
theorem own_law (l : Launch) (Z : State) (a0 : Array Value) (hw : ∀ d ∈ tables_1, d.before a0 Z = true) (ws : List Jvm.Cond) (p0 : Int64) (p1 : Int32) (p2 : Int32) (p3 : Int32) (p4 : Int32)  (h0 : Heap) (n0 : Nat) (Z_ : n0 ≤ h0.size)  :
    Met l x code maxLocals ret ws room_1 Z n0 #[(.long p0), (.int p1), (.int p2), (.int p3), (.int p4)] h0 (fun v h => v = some (.int 1)) := by
  refine own_met pn0 (fun m => ef0 m p0 p1 p2 p3 p4) ?_
  intro p e s m below meth c C0
  have C : Cx p s m meth c Z code 22 (some .boolean) "com/example/vestwork/vestwork/io/PlainNumbersWholeNumberPinLaw" "law" := C0
  refine own_bipush (pc' := 2) (v := (11 : Int32)) C at_0 own_kb_11 rfl ?_
  refine own_newI (pc' := 4) (len := 11) (cap := 11) C at_2 rfl rfl (hw _ (List.mem_of_getElem? (i := 0) rfl)) (by decide) rfl (by decide) (by decide) (by decide) (by decide) rfl ?_
  intro h1 b1 g1 X1 A_b1
  have g_b1 : n0 ≤ b1 := g1 ▸ Z_
  replace Z_ := Nat.le_trans Z_ X1.1
  replace A_b1 : AI Z h1 b1 .byte [(0 : Int32), (0 : Int32), (0 : Int32), (0 : Int32), (0 : Int32), (0 : Int32), (0 : Int32), (0 : Int32), (0 : Int32), (0 : Int32), (0 : Int32)] := A_b1
  refine own_astore (pc' := 6) (Ls' := #[.val (.long p0), .second, .val (.int p1), .val (.int p2), .val (.int p3), .val (.int p4), .val (.ref b1), .unset, .unset, .unset, .unset, .unset, .unset, .unset, .unset, .unset, .unset, .unset, .unset, .unset, .unset, .unset]) C at_4 rfl rfl rfl ?_
  refine own_aload (pc' := 8) C at_6 rfl rfl rfl ?_
  refine own_iconst (pc' := 9) (v := (0 : Int32)) C at_8 own_ki_0 rfl ?_
  refine own_iload (pc' := 11) C at_9 rfl rfl ?_
  refine own_i2b (pc' := 12) C at_11 rfl rfl ?_
  obtain ⟨y12, hy12⟩ : ∃ z : Int32, z = (nar .byte (p3.toInt8.toInt32)) := ⟨_, rfl⟩
  refine own_bastore (pc' := 13) (i := 0) (ys := [y12, (0 : Int32), (0 : Int32), (0 : Int32), (0 : Int32), (0 : Int32), (0 : Int32), (0 : Int32), (0 : Int32), (0 : Int32), (0 : Int32)]) C at_12 A_b1 (by decide) rfl (Nat.le_of_ble_eq_true rfl) (by rw [hy12]; rfl) g_b1 rfl ?_
  intro h2 W2 A2_
  replace A_b1 := A2_
  replace Z_ : n0 ≤ _ := Nat.le_trans Z_ (Nat.le_of_eq W2.size.symm)
  refine own_aload (pc' := 15) C at_13 rfl rfl rfl ?_
  refine own_bipush (pc' := 17) (v := (10 : Int32)) C at_15 own_kb_10 rfl ?_
  refine own_iload (pc' := 19) C at_17 rfl rfl ?_
  refine own_i2b (pc' := 20) C at_19 rfl rfl ?_
  obtain ⟨y20, hy20⟩ : ∃ z : Int32, z = (nar .byte (p4.toInt8.toInt32)) := ⟨_, rfl⟩
  refine own_bastore (pc' := 21) (i := 10) (ys := [y12, (0 : Int32), (0 : Int32), (0 : Int32), (0 : Int32), (0 : Int32), (0 : Int32), (0 : Int32), (0 : Int32), (0 : Int32), y20]) C at_20 A_b1 (by decide) rfl (Nat.le_of_ble_eq_true rfl) (by rw [hy20]; rfl) g_b1 rfl ?_
  intro h3 W3 A3_
  replace A_b1 := A3_
  replace Z_ : n0 ≤ _ := Nat.le_trans Z_ (Nat.le_of_eq W3.size.symm)
  refine own_lloadN (pc' := 22) C at_21 rfl rfl ?_
  refine own_iconst (pc' := 23) (v := (0 : Int32)) C at_22 own_ki_0 rfl ?_
  refine own_callS (pc' := 26) (wL := 0) (argsL := [(.long p0), (.int (0 : Int32))]) (rest := []) C (own_m1 l Z a0 hw p0 (0 : Int32) h3 n0 Z_) at_23 (hw _ (List.mem_of_getElem? (i := 1) rfl)) (hw _ (List.mem_of_getElem? (i := 2) rfl)) (hw _ (List.mem_of_getElem? (i := 3) rfl)) (hw _ (List.mem_of_getElem? (i := 4) rfl)) (by decide) (by decide) (by decide) rfl (lenOf pd1 rfl) rfl rfl (Nat.le_of_eq rfl) (by decide) (by decide) rfl ?_
  rintro _ _ ⟨rfl, rfl⟩
  show Wp p l e _ s m _ below meth c n0 _ h3 (0 + 1) (0 + 11) (mkF m 26 #[.val (.long p0), .second, .val (.int p1), .val (.int p2), .val (.int p3), .val (.int p4), .val (.ref b1), .unset, .unset, .unset, .unset, .unset, .unset, .unset, .unset, .unset, .unset, .unset, .unset, .unset, .unset, .unset] [(.int (own_f1 p0 (0 : Int32)))])
  obtain ⟨v7_26, hv7_26⟩ : ∃ z : Int32, z = (own_f1 p0 (0 : Int32)) := ⟨_, rfl⟩
  refine own_istore (pc' := 28) (y := v7_26) (Ls' := #[.val (.long p0), .second, .val (.int p1), .val (.int p2), .val (.int p3), .val (.int p4), .val (.ref b1), .val (.int v7_26), .unset, .unset, .unset, .unset, .unset, .unset, .unset, .unset, .unset, .unset, .unset, .unset, .unset, .unset]) C at_26 hv7_26.symm rfl rfl ?_
  refine own_lloadN (pc' := 29) C at_28 rfl rfl ?_
  refine own_iconst (pc' := 30) (v := (1 : Int32)) C at_29 own_ki_1 rfl ?_
  refine own_callS (pc' := 33) (wL := 0) (argsL := [(.long p0), (.int (1 : Int32))]) (rest := []) C (own_m1 l Z a0 hw p0 (1 : Int32) h3 n0 Z_) at_30 (hw _ (List.mem_of_getElem? (i := 1) rfl)) (hw _ (List.mem_of_getElem? (i := 2) rfl)) (hw _ (List.mem_of_getElem? (i := 3) rfl)) (hw _ (List.mem_of_getElem? (i := 4) rfl)) (by decide) (by decide) (by decide) rfl (lenOf pd1 rfl) rfl rfl (Nat.le_of_eq rfl) (by decide) (by decide) rfl ?_
  rintro _ _ ⟨rfl, rfl⟩
  show Wp p l e _ s m _ below meth c n0 _ h3 (0 + 1) (0 + 11) (mkF m 33 #[.val (.long p0), .second, .val (.int p1), .val (.int p2), .val (.int p3), .val (.int p4), .val (.ref b1), .val (.int v7_26), .unset, .unset, .unset, .unset, .unset, .unset, .unset, .unset, .unset, .unset, .unset, .unset, .unset, .unset] [(.int (own_f1 p0 (1 : Int32)))])
  obtain ⟨v8_33, hv8_33⟩ : ∃ z : Int32, z = (own_f1 p0 (1 : Int32)) := ⟨_, rfl⟩
  refine own_istore (pc' := 35) (y := v8_33) (Ls' := #[.val (.long p0), .second, .val (.int p1), .val (.int p2), .val (.int p3), .val (.int p4), .val (.ref b1), .val (.int v7_26), .val (.int v8_33), .unset, .unset, .unset, .unset, .unset, .unset, .unset, .unset, .unset, .unset, .unset, .unset, .unset]) C at_33 hv8_33.symm rfl rfl ?_
  refine own_lloadN (pc' := 36) C at_35 rfl rfl ?_
  refine own_iconst (pc' := 37) (v := (2 : Int32)) C at_36 own_ki_2 rfl ?_
  refine own_callS (pc' := 40) (wL := 0) (argsL := [(.long p0), (.int (2 : Int32))]) (rest := []) C (own_m1 l Z a0 hw p0 (2 : Int32) h3 n0 Z_) at_37 (hw _ (List.mem_of_getElem? (i := 1) rfl)) (hw _ (List.mem_of_getElem? (i := 2) rfl)) (hw _ (List.mem_of_getElem? (i := 3) rfl)) (hw _ (List.mem_of_getElem? (i := 4) rfl)) (by decide) (by decide) (by decide) rfl (lenOf pd1 rfl) rfl rfl (Nat.le_of_eq rfl) (by decide) (by decide) rfl ?_
  rintro _ _ ⟨rfl, rfl⟩
  show Wp p l e _ s m _ below meth c n0 _ h3 (0 + 1) (0 + 11) (mkF m 40 #[.val (.long p0), .second, .val (.int p1), .val (.int p2), .val (.int p3), .val (.int p4), .val (.ref b1), .val (.int v7_26), .val (.int v8_33), .unset, .unset, .unset, .unset, .unset, .unset, .unset, .unset, .unset, .unset, .unset, .unset, .unset] [(.int (own_f1 p0 (2 : Int32)))])
  obtain ⟨v9_40, hv9_40⟩ : ∃ z : Int32, z = (own_f1 p0 (2 : Int32)) := ⟨_, rfl⟩
  refine own_istore (pc' := 42) (y := v9_40) (Ls' := #[.val (.long p0), .second, .val (.int p1), .val (.int p2), .val (.int p3), .val (.int p4), .val (.ref b1), .val (.int v7_26), .val (.int v8_33), .val (.int v9_40), .unset, .unset, .unset, .unset, .unset, .unset, .unset, .unset, .unset, .unset, .unset, .unset]) C at_40 hv9_40.symm rfl rfl ?_
  refine own_lloadN (pc' := 43) C at_42 rfl rfl ?_
  refine own_iconst (pc' := 44) (v := (3 : Int32)) C at_43 own_ki_3 rfl ?_
  refine own_callS (pc' := 47) (wL := 0) (argsL := [(.long p0), (.int (3 : Int32))]) (rest := []) C (own_m1 l Z a0 hw p0 (3 : Int32) h3 n0 Z_) at_44 (hw _ (List.mem_of_getElem? (i := 1) rfl)) (hw _ (List.mem_of_getElem? (i := 2) rfl)) (hw _ (List.mem_of_getElem? (i := 3) rfl)) (hw _ (List.mem_of_getElem? (i := 4) rfl)) (by decide) (by decide) (by decide) rfl (lenOf pd1 rfl) rfl rfl (Nat.le_of_eq rfl) (by decide) (by decide) rfl ?_
  rintro _ _ ⟨rfl, rfl⟩
  show Wp p l e _ s m _ below meth c n0 _ h3 (0 + 1) (0 + 11) (mkF m 47 #[.val (.long p0), .second, .val (.int p1), .val (.int p2), .val (.int p3), .val (.int p4), .val (.ref b1), .val (.int v7_26), .val (.int v8_33), .val (.int v9_40), .unset, .unset, .unset, .unset, .unset, .unset, .unset, .unset, .unset, .unset, .unset, .unset] [(.int (own_f1 p0 (3 : Int32)))])
  obtain ⟨v10_47, hv10_47⟩ : ∃ z : Int32, z = (own_f1 p0 (3 : Int32)) := ⟨_, rfl⟩
  refine own_istore (pc' := 49) (y := v10_47) (Ls' := #[.val (.long p0), .second, .val (.int p1), .val (.int p2), .val (.int p3), .val (.int p4), .val (.ref b1), .val (.int v7_26), .val (.int v8_33), .val (.int v9_40), .val (.int v10_47), .unset, .unset, .unset, .unset, .unset, .unset, .unset, .unset, .unset, .unset, .unset]) C at_47 hv10_47.symm rfl rfl ?_
  refine own_lloadN (pc' := 50) C at_49 rfl rfl ?_
  refine own_iconst (pc' := 51) (v := (4 : Int32)) C at_50 own_ki_4 rfl ?_
  refine own_callS (pc' := 54) (wL := 0) (argsL := [(.long p0), (.int (4 : Int32))]) (rest := []) C (own_m1 l Z a0 hw p0 (4 : Int32) h3 n0 Z_) at_51 (hw _ (List.mem_of_getElem? (i := 1) rfl)) (hw _ (List.mem_of_getElem? (i := 2) rfl)) (hw _ (List.mem_of_getElem? (i := 3) rfl)) (hw _ (List.mem_of_getElem? (i := 4) rfl)) (by decide) (by decide) (by decide) rfl (lenOf pd1 rfl) rfl rfl (Nat.le_of_eq rfl) (by decide) (by decide) rfl ?_
  rintro _ _ ⟨rfl, rfl⟩
  show Wp p l e _ s m _ below meth c n0 _ h3 (0 + 1) (0 + 11) (mkF m 54 #[.val (.long p0), .second, .val (.int p1), .val (.int p2), .val (.int p3), .val (.int p4), .val (.ref b1), .val (.int v7_26), .val (.int v8_33), .val (.int v9_40), .val (.int v10_47), .unset, .unset, .unset, .unset, .unset, .unset, .unset, .unset, .unset, .unset, .unset] [(.int (own_f1 p0 (4 : Int32)))])
  obtain ⟨v11_54, hv11_54⟩ : ∃ z : Int32, z = (own_f1 p0 (4 : Int32)) := ⟨_, rfl⟩
  refine own_istore (pc' := 56) (y := v11_54) (Ls' := #[.val (.long p0), .second, .val (.int p1), .val (.int p2), .val (.int p3), .val (.int p4), .val (.ref b1), .val (.int v7_26), .val (.int v8_33), .val (.int v9_40), .val (.int v10_47), .val (.int v11_54), .unset, .unset, .unset, .unset, .unset, .unset, .unset, .unset, .unset, .unset]) C at_54 hv11_54.symm rfl rfl ?_
  refine own_lloadN (pc' := 57) C at_56 rfl rfl ?_
  refine own_iconst (pc' := 58) (v := (5 : Int32)) C at_57 own_ki_5 rfl ?_
  refine own_callS (pc' := 61) (wL := 0) (argsL := [(.long p0), (.int (5 : Int32))]) (rest := []) C (own_m1 l Z a0 hw p0 (5 : Int32) h3 n0 Z_) at_58 (hw _ (List.mem_of_getElem? (i := 1) rfl)) (hw _ (List.mem_of_getElem? (i := 2) rfl)) (hw _ (List.mem_of_getElem? (i := 3) rfl)) (hw _ (List.mem_of_getElem? (i := 4) rfl)) (by decide) (by decide) (by decide) rfl (lenOf pd1 rfl) rfl rfl (Nat.le_of_eq rfl) (by decide) (by decide) rfl ?_
  rintro _ _ ⟨rfl, rfl⟩
  show Wp p l e _ s m _ below meth c n0 _ h3 (0 + 1) (0 + 11) (mkF m 61 #[.val (.long p0), .second, .val (.int p1), .val (.int p2), .val (.int p3), .val (.int p4), .val (.ref b1), .val (.int v7_26), .val (.int v8_33), .val (.int v9_40), .val (.int v10_47), .val (.int v11_54), .unset, .unset, .unset, .unset, .unset, .unset, .unset, .unset, .unset, .unset] [(.int (own_f1 p0 (5 : Int32)))])
  obtain ⟨v12_61, hv12_61⟩ : ∃ z : Int32, z = (own_f1 p0 (5 : Int32)) := ⟨_, rfl⟩
  refine own_istore (pc' := 63) (y := v12_61) (Ls' := #[.val (.long p0), .second, .val (.int p1), .val (.int p2), .val (.int p3), .val (.int p4), .val (.ref b1), .val (.int v7_26), .val (.int v8_33), .val (.int v9_40), .val (.int v10_47), .val (.int v11_54), .val (.int v12_61), .unset, .unset, .unset, .unset, .unset, .unset, .unset, .unset, .unset]) C at_61 hv12_61.symm rfl rfl ?_
  refine own_lloadN (pc' := 64) C at_63 rfl rfl ?_
  refine own_bipush (pc' := 66) (v := (6 : Int32)) C at_64 own_kb_6 rfl ?_
  refine own_callS (pc' := 69) (wL := 0) (argsL := [(.long p0), (.int (6 : Int32))]) (rest := []) C (own_m1 l Z a0 hw p0 (6 : Int32) h3 n0 Z_) at_66 (hw _ (List.mem_of_getElem? (i := 1) rfl)) (hw _ (List.mem_of_getElem? (i := 2) rfl)) (hw _ (List.mem_of_getElem? (i := 3) rfl)) (hw _ (List.mem_of_getElem? (i := 4) rfl)) (by decide) (by decide) (by decide) rfl (lenOf pd1 rfl) rfl rfl (Nat.le_of_eq rfl) (by decide) (by decide) rfl ?_
  rintro _ _ ⟨rfl, rfl⟩
  show Wp p l e _ s m _ below meth c n0 _ h3 (0 + 1) (0 + 11) (mkF m 69 #[.val (.long p0), .second, .val (.int p1), .val (.int p2), .val (.int p3), .val (.int p4), .val (.ref b1), .val (.int v7_26), .val (.int v8_33), .val (.int v9_40), .val (.int v10_47), .val (.int v11_54), .val (.int v12_61), .unset, .unset, .unset, .unset, .unset, .unset, .unset, .unset, .unset] [(.int (own_f1 p0 (6 : Int32)))])
  obtain ⟨v13_69, hv13_69⟩ : ∃ z : Int32, z = (own_f1 p0 (6 : Int32)) := ⟨_, rfl⟩
  refine own_istore (pc' := 71) (y := v13_69) (Ls' := #[.val (.long p0), .second, .val (.int p1), .val (.int p2), .val (.int p3), .val (.int p4), .val (.ref b1), .val (.int v7_26), .val (.int v8_33), .val (.int v9_40), .val (.int v10_47), .val (.int v11_54), .val (.int v12_61), .val (.int v13_69), .unset, .unset, .unset, .unset, .unset, .unset, .unset, .unset]) C at_69 hv13_69.symm rfl rfl ?_
  refine own_lloadN (pc' := 72) C at_71 rfl rfl ?_
  refine own_bipush (pc' := 74) (v := (7 : Int32)) C at_72 own_kb_7 rfl ?_
  refine own_callS (pc' := 77) (wL := 0) (argsL := [(.long p0), (.int (7 : Int32))]) (rest := []) C (own_m1 l Z a0 hw p0 (7 : Int32) h3 n0 Z_) at_74 (hw _ (List.mem_of_getElem? (i := 1) rfl)) (hw _ (List.mem_of_getElem? (i := 2) rfl)) (hw _ (List.mem_of_getElem? (i := 3) rfl)) (hw _ (List.mem_of_getElem? (i := 4) rfl)) (by decide) (by decide) (by decide) rfl (lenOf pd1 rfl) rfl rfl (Nat.le_of_eq rfl) (by decide) (by decide) rfl ?_
  rintro _ _ ⟨rfl, rfl⟩
  show Wp p l e _ s m _ below meth c n0 _ h3 (0 + 1) (0 + 11) (mkF m 77 #[.val (.long p0), .second, .val (.int p1), .val (.int p2), .val (.int p3), .val (.int p4), .val (.ref b1), .val (.int v7_26), .val (.int v8_33), .val (.int v9_40), .val (.int v10_47), .val (.int v11_54), .val (.int v12_61), .val (.int v13_69), .unset, .unset, .unset, .unset, .unset, .unset, .unset, .unset] [(.int (own_f1 p0 (7 : Int32)))])
  obtain ⟨v14_77, hv14_77⟩ : ∃ z : Int32, z = (own_f1 p0 (7 : Int32)) := ⟨_, rfl⟩
  refine own_istore (pc' := 79) (y := v14_77) (Ls' := #[.val (.long p0), .second, .val (.int p1), .val (.int p2), .val (.int p3), .val (.int p4), .val (.ref b1), .val (.int v7_26), .val (.int v8_33), .val (.int v9_40), .val (.int v10_47), .val (.int v11_54), .val (.int v12_61), .val (.int v13_69), .val (.int v14_77), .unset, .unset, .unset, .unset, .unset, .unset, .unset]) C at_77 hv14_77.symm rfl rfl ?_
  refine own_lloadN (pc' := 80) C at_79 rfl rfl ?_
  refine own_bipush (pc' := 82) (v := (8 : Int32)) C at_80 own_kb_8 rfl ?_
  refine own_callS (pc' := 85) (wL := 0) (argsL := [(.long p0), (.int (8 : Int32))]) (rest := []) C (own_m1 l Z a0 hw p0 (8 : Int32) h3 n0 Z_) at_82 (hw _ (List.mem_of_getElem? (i := 1) rfl)) (hw _ (List.mem_of_getElem? (i := 2) rfl)) (hw _ (List.mem_of_getElem? (i := 3) rfl)) (hw _ (List.mem_of_getElem? (i := 4) rfl)) (by decide) (by decide) (by decide) rfl (lenOf pd1 rfl) rfl rfl (Nat.le_of_eq rfl) (by decide) (by decide) rfl ?_
  rintro _ _ ⟨rfl, rfl⟩
  show Wp p l e _ s m _ below meth c n0 _ h3 (0 + 1) (0 + 11) (mkF m 85 #[.val (.long p0), .second, .val (.int p1), .val (.int p2), .val (.int p3), .val (.int p4), .val (.ref b1), .val (.int v7_26), .val (.int v8_33), .val (.int v9_40), .val (.int v10_47), .val (.int v11_54), .val (.int v12_61), .val (.int v13_69), .val (.int v14_77), .unset, .unset, .unset, .unset, .unset, .unset, .unset] [(.int (own_f1 p0 (8 : Int32)))])
  obtain ⟨v15_85, hv15_85⟩ : ∃ z : Int32, z = (own_f1 p0 (8 : Int32)) := ⟨_, rfl⟩
  refine own_istore (pc' := 87) (y := v15_85) (Ls' := #[.val (.long p0), .second, .val (.int p1), .val (.int p2), .val (.int p3), .val (.int p4), .val (.ref b1), .val (.int v7_26), .val (.int v8_33), .val (.int v9_40), .val (.int v10_47), .val (.int v11_54), .val (.int v12_61), .val (.int v13_69), .val (.int v14_77), .val (.int v15_85), .unset, .unset, .unset, .unset, .unset, .unset]) C at_85 hv15_85.symm rfl rfl ?_
  refine own_aload (pc' := 89) C at_87 rfl rfl rfl ?_
  refine own_iconst (pc' := 90) (v := (1 : Int32)) C at_89 own_ki_1 rfl ?_
  refine own_bipush (pc' := 92) (v := (48 : Int32)) C at_90 own_kb_48 rfl ?_
  refine own_iload (pc' := 94) C at_92 rfl rfl ?_
  refine own_iadd (pc' := 95) C at_94 rfl rfl ?_
  refine own_i2b (pc' := 96) C at_95 rfl rfl ?_
  obtain ⟨y96, hy96⟩ : ∃ z : Int32, z = (nar .byte (((48 : Int32) + v7_26).toInt8.toInt32)) := ⟨_, rfl⟩
  refine own_bastore (pc' := 97) (i := 1) (ys := [y12, y96, (0 : Int32), (0 : Int32), (0 : Int32), (0 : Int32), (0 : Int32), (0 : Int32), (0 : Int32), (0 : Int32), y20]) C at_96 A_b1 (by decide) rfl (Nat.le_of_ble_eq_true rfl) (by rw [hy96]; rfl) g_b1 rfl ?_
  intro h4 W4 A4_
  replace A_b1 := A4_
  replace Z_ : n0 ≤ _ := Nat.le_trans Z_ (Nat.le_of_eq W4.size.symm)
  refine own_aload (pc' := 99) C at_97 rfl rfl rfl ?_
  refine own_iconst (pc' := 100) (v := (2 : Int32)) C at_99 own_ki_2 rfl ?_
  refine own_bipush (pc' := 102) (v := (48 : Int32)) C at_100 own_kb_48 rfl ?_
  refine own_iload (pc' := 104) C at_102 rfl rfl ?_
  refine own_iadd (pc' := 105) C at_104 rfl rfl ?_
  refine own_i2b (pc' := 106) C at_105 rfl rfl ?_
  obtain ⟨y106, hy106⟩ : ∃ z : Int32, z = (nar .byte (((48 : Int32) + v8_33).toInt8.toInt32)) := ⟨_, rfl⟩
  refine own_bastore (pc' := 107) (i := 2) (ys := [y12, y96, y106, (0 : Int32), (0 : Int32), (0 : Int32), (0 : Int32), (0 : Int32), (0 : Int32), (0 : Int32), y20]) C at_106 A_b1 (by decide) rfl (Nat.le_of_ble_eq_true rfl) (by rw [hy106]; rfl) g_b1 rfl ?_
  intro h5 W5 A5_
  replace A_b1 := A5_
  replace Z_ : n0 ≤ _ := Nat.le_trans Z_ (Nat.le_of_eq W5.size.symm)
  refine own_aload (pc' := 109) C at_107 rfl rfl rfl ?_
  refine own_iconst (pc' := 110) (v := (3 : Int32)) C at_109 own_ki_3 rfl ?_
  refine own_bipush (pc' := 112) (v := (48 : Int32)) C at_110 own_kb_48 rfl ?_
  refine own_iload (pc' := 114) C at_112 rfl rfl ?_
  refine own_iadd (pc' := 115) C at_114 rfl rfl ?_
  refine own_i2b (pc' := 116) C at_115 rfl rfl ?_
  obtain ⟨y116, hy116⟩ : ∃ z : Int32, z = (nar .byte (((48 : Int32) + v9_40).toInt8.toInt32)) := ⟨_, rfl⟩
  refine own_bastore (pc' := 117) (i := 3) (ys := [y12, y96, y106, y116, (0 : Int32), (0 : Int32), (0 : Int32), (0 : Int32), (0 : Int32), (0 : Int32), y20]) C at_116 A_b1 (by decide) rfl (Nat.le_of_ble_eq_true rfl) (by rw [hy116]; rfl) g_b1 rfl ?_
  intro h6 W6 A6_
  replace A_b1 := A6_
  replace Z_ : n0 ≤ _ := Nat.le_trans Z_ (Nat.le_of_eq W6.size.symm)
  refine own_aload (pc' := 119) C at_117 rfl rfl rfl ?_
  refine own_iconst (pc' := 120) (v := (4 : Int32)) C at_119 own_ki_4 rfl ?_
  refine own_bipush (pc' := 122) (v := (48 : Int32)) C at_120 own_kb_48 rfl ?_
  refine own_iload (pc' := 124) C at_122 rfl rfl ?_
  refine own_iadd (pc' := 125) C at_124 rfl rfl ?_
  refine own_i2b (pc' := 126) C at_125 rfl rfl ?_
  obtain ⟨y126, hy126⟩ : ∃ z : Int32, z = (nar .byte (((48 : Int32) + v10_47).toInt8.toInt32)) := ⟨_, rfl⟩
  refine own_bastore (pc' := 127) (i := 4) (ys := [y12, y96, y106, y116, y126, (0 : Int32), (0 : Int32), (0 : Int32), (0 : Int32), (0 : Int32), y20]) C at_126 A_b1 (by decide) rfl (Nat.le_of_ble_eq_true rfl) (by rw [hy126]; rfl) g_b1 rfl ?_
  intro h7 W7 A7_
  replace A_b1 := A7_
  replace Z_ : n0 ≤ _ := Nat.le_trans Z_ (Nat.le_of_eq W7.size.symm)
  refine own_aload (pc' := 129) C at_127 rfl rfl rfl ?_
  refine own_iconst (pc' := 130) (v := (5 : Int32)) C at_129 own_ki_5 rfl ?_
  refine own_bipush (pc' := 132) (v := (48 : Int32)) C at_130 own_kb_48 rfl ?_
  refine own_iload (pc' := 134) C at_132 rfl rfl ?_
  refine own_iadd (pc' := 135) C at_134 rfl rfl ?_
  refine own_i2b (pc' := 136) C at_135 rfl rfl ?_
  obtain ⟨y136, hy136⟩ : ∃ z : Int32, z = (nar .byte (((48 : Int32) + v11_54).toInt8.toInt32)) := ⟨_, rfl⟩
  refine own_bastore (pc' := 137) (i := 5) (ys := [y12, y96, y106, y116, y126, y136, (0 : Int32), (0 : Int32), (0 : Int32), (0 : Int32), y20]) C at_136 A_b1 (by decide) rfl (Nat.le_of_ble_eq_true rfl) (by rw [hy136]; rfl) g_b1 rfl ?_
  intro h8 W8 A8_
  replace A_b1 := A8_
  replace Z_ : n0 ≤ _ := Nat.le_trans Z_ (Nat.le_of_eq W8.size.symm)
  refine own_aload (pc' := 139) C at_137 rfl rfl rfl ?_
  refine own_bipush (pc' := 141) (v := (6 : Int32)) C at_139 own_kb_6 rfl ?_
  refine own_bipush (pc' := 143) (v := (48 : Int32)) C at_141 own_kb_48 rfl ?_
  refine own_iload (pc' := 145) C at_143 rfl rfl ?_
  refine own_iadd (pc' := 146) C at_145 rfl rfl ?_
  refine own_i2b (pc' := 147) C at_146 rfl rfl ?_
  obtain ⟨y147, hy147⟩ : ∃ z : Int32, z = (nar .byte (((48 : Int32) + v12_61).toInt8.toInt32)) := ⟨_, rfl⟩
  refine own_bastore (pc' := 148) (i := 6) (ys := [y12, y96, y106, y116, y126, y136, y147, (0 : Int32), (0 : Int32), (0 : Int32), y20]) C at_147 A_b1 (by decide) rfl (Nat.le_of_ble_eq_true rfl) (by rw [hy147]; rfl) g_b1 rfl ?_
  intro h9 W9 A9_
  replace A_b1 := A9_
  replace Z_ : n0 ≤ _ := Nat.le_trans Z_ (Nat.le_of_eq W9.size.symm)
  refine own_aload (pc' := 150) C at_148 rfl rfl rfl ?_
  refine own_bipush (pc' := 152) (v := (7 : Int32)) C at_150 own_kb_7 rfl ?_
  refine own_bipush (pc' := 154) (v := (48 : Int32)) C at_152 own_kb_48 rfl ?_
  refine own_iload (pc' := 156) C at_154 rfl rfl ?_
  refine own_iadd (pc' := 157) C at_156 rfl rfl ?_
  refine own_i2b (pc' := 158) C at_157 rfl rfl ?_
  obtain ⟨y158, hy158⟩ : ∃ z : Int32, z = (nar .byte (((48 : Int32) + v13_69).toInt8.toInt32)) := ⟨_, rfl⟩
  refine own_bastore (pc' := 159) (i := 7) (ys := [y12, y96, y106, y116, y126, y136, y147, y158, (0 : Int32), (0 : Int32), y20]) C at_158 A_b1 (by decide) rfl (Nat.le_of_ble_eq_true rfl) (by rw [hy158]; rfl) g_b1 rfl ?_
  intro h10 W10 A10_
  replace A_b1 := A10_
  replace Z_ : n0 ≤ _ := Nat.le_trans Z_ (Nat.le_of_eq W10.size.symm)
  refine own_aload (pc' := 161) C at_159 rfl rfl rfl ?_
  refine own_bipush (pc' := 163) (v := (8 : Int32)) C at_161 own_kb_8 rfl ?_
  refine own_bipush (pc' := 165) (v := (48 : Int32)) C at_163 own_kb_48 rfl ?_
  refine own_iload (pc' := 167) C at_165 rfl rfl ?_
  refine own_iadd (pc' := 168) C at_167 rfl rfl ?_
  refine own_i2b (pc' := 169) C at_168 rfl rfl ?_
  obtain ⟨y169, hy169⟩ : ∃ z : Int32, z = (nar .byte (((48 : Int32) + v14_77).toInt8.toInt32)) := ⟨_, rfl⟩
  refine own_bastore (pc' := 170) (i := 8) (ys := [y12, y96, y106, y116, y126, y136, y147, y158, y169, (0 : Int32), y20]) C at_169 A_b1 (by decide) rfl (Nat.le_of_ble_eq_true rfl) (by rw [hy169]; rfl) g_b1 rfl ?_
  intro h11 W11 A11_
  replace A_b1 := A11_
  replace Z_ : n0 ≤ _ := Nat.le_trans Z_ (Nat.le_of_eq W11.size.symm)
  refine own_aload (pc' := 172) C at_170 rfl rfl rfl ?_
  refine own_bipush (pc' := 174) (v := (9 : Int32)) C at_172 own_kb_9 rfl ?_
  refine own_bipush (pc' := 176) (v := (48 : Int32)) C at_174 own_kb_48 rfl ?_
  refine own_iload (pc' := 178) C at_176 rfl rfl ?_
  refine own_iadd (pc' := 179) C at_178 rfl rfl ?_
  refine own_i2b (pc' := 180) C at_179 rfl rfl ?_
  obtain ⟨y180, hy180⟩ : ∃ z : Int32, z = (nar .byte (((48 : Int32) + v15_85).toInt8.toInt32)) := ⟨_, rfl⟩
  refine own_bastore (pc' := 181) (i := 9) (ys := [y12, y96, y106, y116, y126, y136, y147, y158, y169, y180, y20]) C at_180 A_b1 (by decide) rfl (Nat.le_of_ble_eq_true rfl) (by rw [hy180]; rfl) g_b1 rfl ?_
  intro h12 W12 A12_
  replace A_b1 := A12_
  replace Z_ : n0 ≤ _ := Nat.le_trans Z_ (Nat.le_of_eq W12.size.symm)
  refine own_iconst (pc' := 182) (v := (1 : Int32)) C at_181 own_ki_1 rfl ?_
  refine own_iloadN (pc' := 183) C at_182 rfl rfl ?_
  refine own_ldc (pc' := 185) (v := (2147483647 : Int32)) C at_183 (hw _ (List.mem_of_getElem? (i := 5) rfl)) rfl ?_
  refine own_iand (pc' := 186) C at_185 rfl rfl ?_
  refine own_bipush (pc' := 188) (v := (9 : Int32)) C at_186 own_kb_9 rfl ?_
  refine own_irem (pc' := 189) C at_188 (by decide) rfl rfl ?_
  refine own_iadd (pc' := 190) C at_189 rfl rfl ?_
  obtain ⟨v16_190, hv16_190⟩ : ∃ z : Int32, z = ((1 : Int32) + ((p1 &&& (2147483647 : Int32)) % (9 : Int32))) := ⟨_, rfl⟩
  refine own_istore (pc' := 192) (y := v16_190) (Ls' := #[.val (.long p0), .second, .val (.int p1), .val (.int p2), .val (.int p3), .val (.int p4), .val (.ref b1), .val (.int v7_26), .val (.int v8_33), .val (.int v9_40), .val (.int v10_47), .val (.int v11_54), .val (.int v12_61), .val (.int v13_69), .val (.int v14_77), .val (.int v15_85), .val (.int v16_190), .unset, .unset, .unset, .unset, .unset]) C at_190 hv16_190.symm rfl rfl ?_
  refine own_iload (pc' := 194) C at_192 rfl rfl ?_
  refine own_iconst (pc' := 195) (v := (1 : Int32)) C at_194 own_ki_1 rfl ?_
  refine own_iadd (pc' := 196) C at_195 rfl rfl ?_
  refine own_iloadN (pc' := 197) C at_196 rfl rfl ?_
  refine own_ldc (pc' := 199) (v := (2147483647 : Int32)) C at_197 (hw _ (List.mem_of_getElem? (i := 5) rfl)) rfl ?_
  refine own_iand (pc' := 200) C at_199 rfl rfl ?_
  refine own_bipush (pc' := 202) (v := (10 : Int32)) C at_200 own_kb_10 rfl ?_
  refine own_iload (pc' := 204) C at_202 rfl rfl ?_
  refine own_isub (pc' := 205) C at_204 rfl rfl ?_
  refine own_irem (pc' := 206) C at_205 (own_ten hv16_190) rfl rfl ?_
  refine own_iadd (pc' := 207) C at_206 rfl rfl ?_
  obtain ⟨v17_207, hv17_207⟩ : ∃ z : Int32, z = ((v16_190 + (1 : Int32)) + ((p2 &&& (2147483647 : Int32)) % ((10 : Int32) - v16_190))) := ⟨_, rfl⟩
  refine own_istore (pc' := 209) (y := v17_207) (Ls' := #[.val (.long p0), .second, .val (.int p1), .val (.int p2), .val (.int p3), .val (.int p4), .val (.ref b1), .val (.int v7_26), .val (.int v8_33), .val (.int v9_40), .val (.int v10_47), .val (.int v11_54), .val (.int v12_61), .val (.int v13_69), .val (.int v14_77), .val (.int v15_85), .val (.int v16_190), .val (.int v17_207), .unset, .unset, .unset, .unset]) C at_207 hv17_207.symm rfl rfl ?_
  refine own_bipush (pc' := 211) (v := (9 : Int32)) C at_209 own_kb_9 rfl ?_
  refine own_newJ (pc' := 213) (len := 9) (cap := 9) C at_211 (hw _ (List.mem_of_getElem? (i := 6) rfl)) (by decide) rfl (by decide) (by decide) (by decide) (by decide) rfl ?_
  intro h13 b13 g13 X13 A_b13
  have ne_b1_b13 : b1 ≠ b13 := Nat.ne_of_lt (g13 ▸ A_b1.lt)
  replace A_b1 := A_b1.ext X13
  have g_b13 : n0 ≤ b13 := g13 ▸ Z_
  replace Z_ := Nat.le_trans Z_ X13.1
  replace A_b13 : AJ Z h13 b13 [(0 : Int64), (0 : Int64), (0 : Int64), (0 : Int64), (0 : Int64), (0 : Int64), (0 : Int64), (0 : Int64), (0 : Int64)] := A_b13
  refine own_dup (pc' := 214) C at_213 rfl rfl ?_
  refine own_iconst (pc' := 215) (v := (0 : Int32)) C at_214 own_ki_0 rfl ?_
  refine own_lconst (pc' := 216) (v := (1 : Int64)) C at_215 (by decide) rfl ?_
  refine own_lastore (pc' := 217) (i := 0) (ys := [(1 : Int64), (0 : Int64), (0 : Int64), (0 : Int64), (0 : Int64), (0 : Int64), (0 : Int64), (0 : Int64), (0 : Int64)]) C at_216 A_b13 (by decide) rfl (Nat.le_of_ble_eq_true rfl) rfl g_b13 rfl ?_
  intro h14 W14 A14_
  replace A_b1 := A_b1.other W14 ne_b1_b13
  replace A_b13 := A14_
  replace Z_ : n0 ≤ _ := Nat.le_trans Z_ (Nat.le_of_eq W14.size.symm)
  refine own_dup (pc' := 218) C at_217 rfl rfl ?_
  refine own_iconst (pc' := 219) (v := (1 : Int32)) C at_218 own_ki_1 rfl ?_
  refine own_ldc2 (pc' := 222) (v := (10 : Int64)) C at_219 (hw _ (List.mem_of_getElem? (i := 7) rfl)) rfl ?_
  refine own_lastore (pc' := 223) (i := 1) (ys := [(1 : Int64), (10 : Int64), (0 : Int64), (0 : Int64), (0 : Int64), (0 : Int64), (0 : Int64), (0 : Int64), (0 : Int64)]) C at_222 A_b13 (by decide) rfl (Nat.le_of_ble_eq_true rfl) rfl g_b13 rfl ?_
  intro h15 W15 A15_
  replace A_b1 := A_b1.other W15 ne_b1_b13
  replace A_b13 := A15_
  replace Z_ : n0 ≤ _ := Nat.le_trans Z_ (Nat.le_of_eq W15.size.symm)
  refine own_dup (pc' := 224) C at_223 rfl rfl ?_
  refine own_iconst (pc' := 225) (v := (2 : Int32)) C at_224 own_ki_2 rfl ?_
  refine own_ldc2 (pc' := 228) (v := (100 : Int64)) C at_225 (hw _ (List.mem_of_getElem? (i := 8) rfl)) rfl ?_
  refine own_lastore (pc' := 229) (i := 2) (ys := [(1 : Int64), (10 : Int64), (100 : Int64), (0 : Int64), (0 : Int64), (0 : Int64), (0 : Int64), (0 : Int64), (0 : Int64)]) C at_228 A_b13 (by decide) rfl (Nat.le_of_ble_eq_true rfl) rfl g_b13 rfl ?_
  intro h16 W16 A16_
  replace A_b1 := A_b1.other W16 ne_b1_b13
  replace A_b13 := A16_
  replace Z_ : n0 ≤ _ := Nat.le_trans Z_ (Nat.le_of_eq W16.size.symm)
  refine own_dup (pc' := 230) C at_229 rfl rfl ?_
  refine own_iconst (pc' := 231) (v := (3 : Int32)) C at_230 own_ki_3 rfl ?_
  refine own_ldc2 (pc' := 234) (v := (1000 : Int64)) C at_231 (hw _ (List.mem_of_getElem? (i := 9) rfl)) rfl ?_
  refine own_lastore (pc' := 235) (i := 3) (ys := [(1 : Int64), (10 : Int64), (100 : Int64), (1000 : Int64), (0 : Int64), (0 : Int64), (0 : Int64), (0 : Int64), (0 : Int64)]) C at_234 A_b13 (by decide) rfl (Nat.le_of_ble_eq_true rfl) rfl g_b13 rfl ?_
  intro h17 W17 A17_
  replace A_b1 := A_b1.other W17 ne_b1_b13
  replace A_b13 := A17_
  replace Z_ : n0 ≤ _ := Nat.le_trans Z_ (Nat.le_of_eq W17.size.symm)
  refine own_dup (pc' := 236) C at_235 rfl rfl ?_
  refine own_iconst (pc' := 237) (v := (4 : Int32)) C at_236 own_ki_4 rfl ?_
  refine own_ldc2 (pc' := 240) (v := (10000 : Int64)) C at_237 (hw _ (List.mem_of_getElem? (i := 10) rfl)) rfl ?_
  refine own_lastore (pc' := 241) (i := 4) (ys := [(1 : Int64), (10 : Int64), (100 : Int64), (1000 : Int64), (10000 : Int64), (0 : Int64), (0 : Int64), (0 : Int64), (0 : Int64)]) C at_240 A_b13 (by decide) rfl (Nat.le_of_ble_eq_true rfl) rfl g_b13 rfl ?_
  intro h18 W18 A18_
  replace A_b1 := A_b1.other W18 ne_b1_b13
  replace A_b13 := A18_
  replace Z_ : n0 ≤ _ := Nat.le_trans Z_ (Nat.le_of_eq W18.size.symm)
  refine own_dup (pc' := 242) C at_241 rfl rfl ?_
  refine own_iconst (pc' := 243) (v := (5 : Int32)) C at_242 own_ki_5 rfl ?_
  refine own_ldc2 (pc' := 246) (v := (100000 : Int64)) C at_243 (hw _ (List.mem_of_getElem? (i := 11) rfl)) rfl ?_
  refine own_lastore (pc' := 247) (i := 5) (ys := [(1 : Int64), (10 : Int64), (100 : Int64), (1000 : Int64), (10000 : Int64), (100000 : Int64), (0 : Int64), (0 : Int64), (0 : Int64)]) C at_246 A_b13 (by decide) rfl (Nat.le_of_ble_eq_true rfl) rfl g_b13 rfl ?_
  intro h19 W19 A19_
  replace A_b1 := A_b1.other W19 ne_b1_b13
  replace A_b13 := A19_
  replace Z_ : n0 ≤ _ := Nat.le_trans Z_ (Nat.le_of_eq W19.size.symm)
  refine own_dup (pc' := 248) C at_247 rfl rfl ?_
  refine own_bipush (pc' := 250) (v := (6 : Int32)) C at_248 own_kb_6 rfl ?_
  refine own_ldc2 (pc' := 253) (v := (1000000 : Int64)) C at_250 (hw _ (List.mem_of_getElem? (i := 12) rfl)) rfl ?_
  refine own_lastore (pc' := 254) (i := 6) (ys := [(1 : Int64), (10 : Int64), (100 : Int64), (1000 : Int64), (10000 : Int64), (100000 : Int64), (1000000 : Int64), (0 : Int64), (0 : Int64)]) C at_253 A_b13 (by decide) rfl (Nat.le_of_ble_eq_true rfl) rfl g_b13 rfl ?_
  intro h20 W20 A20_
  replace A_b1 := A_b1.other W20 ne_b1_b13
  replace A_b13 := A20_
  replace Z_ : n0 ≤ _ := Nat.le_trans Z_ (Nat.le_of_eq W20.size.symm)
  refine own_dup (pc' := 255) C at_254 rfl rfl ?_
  refine own_bipush (pc' := 257) (v := (7 : Int32)) C at_255 own_kb_7 rfl ?_
  refine own_ldc2 (pc' := 260) (v := (10000000 : Int64)) C at_257 (hw _ (List.mem_of_getElem? (i := 13) rfl)) rfl ?_
  refine own_lastore (pc' := 261) (i := 7) (ys := [(1 : Int64), (10 : Int64), (100 : Int64), (1000 : Int64), (10000 : Int64), (100000 : Int64), (1000000 : Int64), (10000000 : Int64), (0 : Int64)]) C at_260 A_b13 (by decide) rfl (Nat.le_of_ble_eq_true rfl) rfl g_b13 rfl ?_
  intro h21 W21 A21_
  replace A_b1 := A_b1.other W21 ne_b1_b13
  replace A_b13 := A21_
  replace Z_ : n0 ≤ _ := Nat.le_trans Z_ (Nat.le_of_eq W21.size.symm)
  refine own_dup (pc' := 262) C at_261 rfl rfl ?_
  refine own_bipush (pc' := 264) (v := (8 : Int32)) C at_262 own_kb_8 rfl ?_
  refine own_ldc2 (pc' := 267) (v := (100000000 : Int64)) C at_264 (hw _ (List.mem_of_getElem? (i := 14) rfl)) rfl ?_
  refine own_lastore (pc' := 268) (i := 8) (ys := [(1 : Int64), (10 : Int64), (100 : Int64), (1000 : Int64), (10000 : Int64), (100000 : Int64), (1000000 : Int64), (10000000 : Int64), (100000000 : Int64)]) C at_267 A_b13 (by decide) rfl (Nat.le_of_ble_eq_true rfl) rfl g_b13 rfl ?_
  intro h22 W22 A22_
  replace A_b1 := A_b1.other W22 ne_b1_b13
  replace A_b13 := A22_
  replace Z_ : n0 ≤ _ := Nat.le_trans Z_ (Nat.le_of_eq W22.size.symm)
  refine own_astore (pc' := 270) (Ls' := #[.val (.long p0), .second, .val (.int p1), .val (.int p2), .val (.int p3), .val (.int p4), .val (.ref b1), .val (.int v7_26), .val (.int v8_33), .val (.int v9_40), .val (.int v10_47), .val (.int v11_54), .val (.int v12_61), .val (.int v13_69), .val (.int v14_77), .val (.int v15_85), .val (.int v16_190), .val (.int v17_207), .val (.ref b13), .unset, .unset, .unset]) C at_268 rfl rfl rfl ?_
  refine own_iload (pc' := 272) C at_270 rfl rfl ?_
  refine own_iconst (pc' := 273) (v := (1 : Int32)) C at_272 own_ki_1 rfl ?_
  refine own_iload (pc' := 275) C at_273 rfl rfl ?_
  refine own_iload (pc' := 277) C at_275 rfl rfl ?_
  refine own_aload (pc' := 279) C at_277 rfl rfl rfl ?_
  refine own_callS (pc' := 282) (wL := 0) (argsL := [(.int v7_26), (.int (1 : Int32)), (.int v16_190), (.int v17_207), (.ref b13)]) (rest := []) C (own_m2 l Z a0 hw v7_26 (1 : Int32) v16_190 v17_207 b13 h22 n0 Z_ A_b13 (own_oks hv16_190 hv17_207 (by decide) (by decide))) at_279 (hw _ (List.mem_of_getElem? (i := 15) rfl)) (hw _ (List.mem_of_getElem? (i := 16) rfl)) (hw _ (List.mem_of_getElem? (i := 3) rfl)) (hw _ (List.mem_of_getElem? (i := 17) rfl)) (by decide) (by decide) (by decide) rfl (lenOf pd2 rfl) rfl rfl (Nat.le_of_eq rfl) (by decide) (by decide) rfl ?_
  rintro _ _ ⟨rfl, rfl⟩
  show Wp p l e _ s m _ below meth c n0 _ h22 ((0 + 1) + 1) ((0 + 11) + 9) (mkF m 282 #[.val (.long p0), .second, .val (.int p1), .val (.int p2), .val (.int p3), .val (.int p4), .val (.ref b1), .val (.int v7_26), .val (.int v8_33), .val (.int v9_40), .val (.int v10_47), .val (.int v11_54), .val (.int v12_61), .val (.int v13_69), .val (.int v14_77), .val (.int v15_85), .val (.int v16_190), .val (.int v17_207), .val (.ref b13), .unset, .unset, .unset] [(.long (own_term v7_26 (1 : Int32) v16_190 v17_207))])
  refine own_iload (pc' := 284) C at_282 rfl rfl ?_
  refine own_iconst (pc' := 285) (v := (2 : Int32)) C at_284 own_ki_2 rfl ?_
  refine own_iload (pc' := 287) C at_285 rfl rfl ?_
  refine own_iload (pc' := 289) C at_287 rfl rfl ?_
  refine own_aload (pc' := 291) C at_289 rfl rfl rfl ?_
  refine own_callS (pc' := 294) (wL := 2) (argsL := [(.int v8_33), (.int (2 : Int32)), (.int v16_190), (.int v17_207), (.ref b13)]) (rest := [(.long (own_term v7_26 (1 : Int32) v16_190 v17_207))]) C (own_m2 l Z a0 hw v8_33 (2 : Int32) v16_190 v17_207 b13 h22 n0 Z_ A_b13 (own_oks hv16_190 hv17_207 (by decide) (by decide))) at_291 (hw _ (List.mem_of_getElem? (i := 15) rfl)) (hw _ (List.mem_of_getElem? (i := 16) rfl)) (hw _ (List.mem_of_getElem? (i := 3) rfl)) (hw _ (List.mem_of_getElem? (i := 17) rfl)) (by decide) (by decide) (by decide) rfl (lenOf pd2 rfl) rfl rfl (Nat.le_of_eq rfl) (by decide) (by decide) rfl ?_
  rintro _ _ ⟨rfl, rfl⟩
  show Wp p l e _ s m _ below meth c n0 _ h22 ((0 + 1) + 1) ((0 + 11) + 9) (mkF m 294 #[.val (.long p0), .second, .val (.int p1), .val (.int p2), .val (.int p3), .val (.int p4), .val (.ref b1), .val (.int v7_26), .val (.int v8_33), .val (.int v9_40), .val (.int v10_47), .val (.int v11_54), .val (.int v12_61), .val (.int v13_69), .val (.int v14_77), .val (.int v15_85), .val (.int v16_190), .val (.int v17_207), .val (.ref b13), .unset, .unset, .unset] [(.long (own_term v8_33 (2 : Int32) v16_190 v17_207)), (.long (own_term v7_26 (1 : Int32) v16_190 v17_207))])
  refine own_ladd (pc' := 295) C at_294 rfl rfl ?_
  refine own_iload (pc' := 297) C at_295 rfl rfl ?_
  refine own_iconst (pc' := 298) (v := (3 : Int32)) C at_297 own_ki_3 rfl ?_
  refine own_iload (pc' := 300) C at_298 rfl rfl ?_
  refine own_iload (pc' := 302) C at_300 rfl rfl ?_
  refine own_aload (pc' := 304) C at_302 rfl rfl rfl ?_
  refine own_callS (pc' := 307) (wL := 2) (argsL := [(.int v9_40), (.int (3 : Int32)), (.int v16_190), (.int v17_207), (.ref b13)]) (rest := [(.long ((own_term v7_26 (1 : Int32) v16_190 v17_207) + (own_term v8_33 (2 : Int32) v16_190 v17_207)))]) C (own_m2 l Z a0 hw v9_40 (3 : Int32) v16_190 v17_207 b13 h22 n0 Z_ A_b13 (own_oks hv16_190 hv17_207 (by decide) (by decide))) at_304 (hw _ (List.mem_of_getElem? (i := 15) rfl)) (hw _ (List.mem_of_getElem? (i := 16) rfl)) (hw _ (List.mem_of_getElem? (i := 3) rfl)) (hw _ (List.mem_of_getElem? (i := 17) rfl)) (by decide) (by decide) (by decide) rfl (lenOf pd2 rfl) rfl rfl (Nat.le_of_eq rfl) (by decide) (by decide) rfl ?_
  rintro _ _ ⟨rfl, rfl⟩
  show Wp p l e _ s m _ below meth c n0 _ h22 ((0 + 1) + 1) ((0 + 11) + 9) (mkF m 307 #[.val (.long p0), .second, .val (.int p1), .val (.int p2), .val (.int p3), .val (.int p4), .val (.ref b1), .val (.int v7_26), .val (.int v8_33), .val (.int v9_40), .val (.int v10_47), .val (.int v11_54), .val (.int v12_61), .val (.int v13_69), .val (.int v14_77), .val (.int v15_85), .val (.int v16_190), .val (.int v17_207), .val (.ref b13), .unset, .unset, .unset] [(.long (own_term v9_40 (3 : Int32) v16_190 v17_207)), (.long ((own_term v7_26 (1 : Int32) v16_190 v17_207) + (own_term v8_33 (2 : Int32) v16_190 v17_207)))])
  refine own_ladd (pc' := 308) C at_307 rfl rfl ?_
  refine own_iload (pc' := 310) C at_308 rfl rfl ?_
  refine own_iconst (pc' := 311) (v := (4 : Int32)) C at_310 own_ki_4 rfl ?_
  refine own_iload (pc' := 313) C at_311 rfl rfl ?_
  refine own_iload (pc' := 315) C at_313 rfl rfl ?_
  refine own_aload (pc' := 317) C at_315 rfl rfl rfl ?_
  refine own_callS (pc' := 320) (wL := 2) (argsL := [(.int v10_47), (.int (4 : Int32)), (.int v16_190), (.int v17_207), (.ref b13)]) (rest := [(.long (((own_term v7_26 (1 : Int32) v16_190 v17_207) + (own_term v8_33 (2 : Int32) v16_190 v17_207)) + (own_term v9_40 (3 : Int32) v16_190 v17_207)))]) C (own_m2 l Z a0 hw v10_47 (4 : Int32) v16_190 v17_207 b13 h22 n0 Z_ A_b13 (own_oks hv16_190 hv17_207 (by decide) (by decide))) at_317 (hw _ (List.mem_of_getElem? (i := 15) rfl)) (hw _ (List.mem_of_getElem? (i := 16) rfl)) (hw _ (List.mem_of_getElem? (i := 3) rfl)) (hw _ (List.mem_of_getElem? (i := 17) rfl)) (by decide) (by decide) (by decide) rfl (lenOf pd2 rfl) rfl rfl (Nat.le_of_eq rfl) (by decide) (by decide) rfl ?_
  rintro _ _ ⟨rfl, rfl⟩
  show Wp p l e _ s m _ below meth c n0 _ h22 ((0 + 1) + 1) ((0 + 11) + 9) (mkF m 320 #[.val (.long p0), .second, .val (.int p1), .val (.int p2), .val (.int p3), .val (.int p4), .val (.ref b1), .val (.int v7_26), .val (.int v8_33), .val (.int v9_40), .val (.int v10_47), .val (.int v11_54), .val (.int v12_61), .val (.int v13_69), .val (.int v14_77), .val (.int v15_85), .val (.int v16_190), .val (.int v17_207), .val (.ref b13), .unset, .unset, .unset] [(.long (own_term v10_47 (4 : Int32) v16_190 v17_207)), (.long (((own_term v7_26 (1 : Int32) v16_190 v17_207) + (own_term v8_33 (2 : Int32) v16_190 v17_207)) + (own_term v9_40 (3 : Int32) v16_190 v17_207)))])
  refine own_ladd (pc' := 321) C at_320 rfl rfl ?_
  refine own_iload (pc' := 323) C at_321 rfl rfl ?_
  refine own_iconst (pc' := 324) (v := (5 : Int32)) C at_323 own_ki_5 rfl ?_
  refine own_iload (pc' := 326) C at_324 rfl rfl ?_
  refine own_iload (pc' := 328) C at_326 rfl rfl ?_
  refine own_aload (pc' := 330) C at_328 rfl rfl rfl ?_
  refine own_callS (pc' := 333) (wL := 2) (argsL := [(.int v11_54), (.int (5 : Int32)), (.int v16_190), (.int v17_207), (.ref b13)]) (rest := [(.long ((((own_term v7_26 (1 : Int32) v16_190 v17_207) + (own_term v8_33 (2 : Int32) v16_190 v17_207)) + (own_term v9_40 (3 : Int32) v16_190 v17_207)) + (own_term v10_47 (4 : Int32) v16_190 v17_207)))]) C (own_m2 l Z a0 hw v11_54 (5 : Int32) v16_190 v17_207 b13 h22 n0 Z_ A_b13 (own_oks hv16_190 hv17_207 (by decide) (by decide))) at_330 (hw _ (List.mem_of_getElem? (i := 15) rfl)) (hw _ (List.mem_of_getElem? (i := 16) rfl)) (hw _ (List.mem_of_getElem? (i := 3) rfl)) (hw _ (List.mem_of_getElem? (i := 17) rfl)) (by decide) (by decide) (by decide) rfl (lenOf pd2 rfl) rfl rfl (Nat.le_of_eq rfl) (by decide) (by decide) rfl ?_
  rintro _ _ ⟨rfl, rfl⟩
  show Wp p l e _ s m _ below meth c n0 _ h22 ((0 + 1) + 1) ((0 + 11) + 9) (mkF m 333 #[.val (.long p0), .second, .val (.int p1), .val (.int p2), .val (.int p3), .val (.int p4), .val (.ref b1), .val (.int v7_26), .val (.int v8_33), .val (.int v9_40), .val (.int v10_47), .val (.int v11_54), .val (.int v12_61), .val (.int v13_69), .val (.int v14_77), .val (.int v15_85), .val (.int v16_190), .val (.int v17_207), .val (.ref b13), .unset, .unset, .unset] [(.long (own_term v11_54 (5 : Int32) v16_190 v17_207)), (.long ((((own_term v7_26 (1 : Int32) v16_190 v17_207) + (own_term v8_33 (2 : Int32) v16_190 v17_207)) + (own_term v9_40 (3 : Int32) v16_190 v17_207)) + (own_term v10_47 (4 : Int32) v16_190 v17_207)))])
  refine own_ladd (pc' := 334) C at_333 rfl rfl ?_
  refine own_iload (pc' := 336) C at_334 rfl rfl ?_
  refine own_bipush (pc' := 338) (v := (6 : Int32)) C at_336 own_kb_6 rfl ?_
  refine own_iload (pc' := 340) C at_338 rfl rfl ?_
  refine own_iload (pc' := 342) C at_340 rfl rfl ?_
  refine own_aload (pc' := 344) C at_342 rfl rfl rfl ?_
  refine own_callS (pc' := 347) (wL := 2) (argsL := [(.int v12_61), (.int (6 : Int32)), (.int v16_190), (.int v17_207), (.ref b13)]) (rest := [(.long (((((own_term v7_26 (1 : Int32) v16_190 v17_207) + (own_term v8_33 (2 : Int32) v16_190 v17_207)) + (own_term v9_40 (3 : Int32) v16_190 v17_207)) + (own_term v10_47 (4 : Int32) v16_190 v17_207)) + (own_term v11_54 (5 : Int32) v16_190 v17_207)))]) C (own_m2 l Z a0 hw v12_61 (6 : Int32) v16_190 v17_207 b13 h22 n0 Z_ A_b13 (own_oks hv16_190 hv17_207 (by decide) (by decide))) at_344 (hw _ (List.mem_of_getElem? (i := 15) rfl)) (hw _ (List.mem_of_getElem? (i := 16) rfl)) (hw _ (List.mem_of_getElem? (i := 3) rfl)) (hw _ (List.mem_of_getElem? (i := 17) rfl)) (by decide) (by decide) (by decide) rfl (lenOf pd2 rfl) rfl rfl (Nat.le_of_eq rfl) (by decide) (by decide) rfl ?_
  rintro _ _ ⟨rfl, rfl⟩
  show Wp p l e _ s m _ below meth c n0 _ h22 ((0 + 1) + 1) ((0 + 11) + 9) (mkF m 347 #[.val (.long p0), .second, .val (.int p1), .val (.int p2), .val (.int p3), .val (.int p4), .val (.ref b1), .val (.int v7_26), .val (.int v8_33), .val (.int v9_40), .val (.int v10_47), .val (.int v11_54), .val (.int v12_61), .val (.int v13_69), .val (.int v14_77), .val (.int v15_85), .val (.int v16_190), .val (.int v17_207), .val (.ref b13), .unset, .unset, .unset] [(.long (own_term v12_61 (6 : Int32) v16_190 v17_207)), (.long (((((own_term v7_26 (1 : Int32) v16_190 v17_207) + (own_term v8_33 (2 : Int32) v16_190 v17_207)) + (own_term v9_40 (3 : Int32) v16_190 v17_207)) + (own_term v10_47 (4 : Int32) v16_190 v17_207)) + (own_term v11_54 (5 : Int32) v16_190 v17_207)))])
  refine own_ladd (pc' := 348) C at_347 rfl rfl ?_
  refine own_iload (pc' := 350) C at_348 rfl rfl ?_
  refine own_bipush (pc' := 352) (v := (7 : Int32)) C at_350 own_kb_7 rfl ?_
  refine own_iload (pc' := 354) C at_352 rfl rfl ?_
  refine own_iload (pc' := 356) C at_354 rfl rfl ?_
  refine own_aload (pc' := 358) C at_356 rfl rfl rfl ?_
  refine own_callS (pc' := 361) (wL := 2) (argsL := [(.int v13_69), (.int (7 : Int32)), (.int v16_190), (.int v17_207), (.ref b13)]) (rest := [(.long ((((((own_term v7_26 (1 : Int32) v16_190 v17_207) + (own_term v8_33 (2 : Int32) v16_190 v17_207)) + (own_term v9_40 (3 : Int32) v16_190 v17_207)) + (own_term v10_47 (4 : Int32) v16_190 v17_207)) + (own_term v11_54 (5 : Int32) v16_190 v17_207)) + (own_term v12_61 (6 : Int32) v16_190 v17_207)))]) C (own_m2 l Z a0 hw v13_69 (7 : Int32) v16_190 v17_207 b13 h22 n0 Z_ A_b13 (own_oks hv16_190 hv17_207 (by decide) (by decide))) at_358 (hw _ (List.mem_of_getElem? (i := 15) rfl)) (hw _ (List.mem_of_getElem? (i := 16) rfl)) (hw _ (List.mem_of_getElem? (i := 3) rfl)) (hw _ (List.mem_of_getElem? (i := 17) rfl)) (by decide) (by decide) (by decide) rfl (lenOf pd2 rfl) rfl rfl (Nat.le_of_eq rfl) (by decide) (by decide) rfl ?_
  rintro _ _ ⟨rfl, rfl⟩
  show Wp p l e _ s m _ below meth c n0 _ h22 ((0 + 1) + 1) ((0 + 11) + 9) (mkF m 361 #[.val (.long p0), .second, .val (.int p1), .val (.int p2), .val (.int p3), .val (.int p4), .val (.ref b1), .val (.int v7_26), .val (.int v8_33), .val (.int v9_40), .val (.int v10_47), .val (.int v11_54), .val (.int v12_61), .val (.int v13_69), .val (.int v14_77), .val (.int v15_85), .val (.int v16_190), .val (.int v17_207), .val (.ref b13), .unset, .unset, .unset] [(.long (own_term v13_69 (7 : Int32) v16_190 v17_207)), (.long ((((((own_term v7_26 (1 : Int32) v16_190 v17_207) + (own_term v8_33 (2 : Int32) v16_190 v17_207)) + (own_term v9_40 (3 : Int32) v16_190 v17_207)) + (own_term v10_47 (4 : Int32) v16_190 v17_207)) + (own_term v11_54 (5 : Int32) v16_190 v17_207)) + (own_term v12_61 (6 : Int32) v16_190 v17_207)))])
  refine own_ladd (pc' := 362) C at_361 rfl rfl ?_
  refine own_iload (pc' := 364) C at_362 rfl rfl ?_
  refine own_bipush (pc' := 366) (v := (8 : Int32)) C at_364 own_kb_8 rfl ?_
  refine own_iload (pc' := 368) C at_366 rfl rfl ?_
  refine own_iload (pc' := 370) C at_368 rfl rfl ?_
  refine own_aload (pc' := 372) C at_370 rfl rfl rfl ?_
  refine own_callS (pc' := 375) (wL := 2) (argsL := [(.int v14_77), (.int (8 : Int32)), (.int v16_190), (.int v17_207), (.ref b13)]) (rest := [(.long (((((((own_term v7_26 (1 : Int32) v16_190 v17_207) + (own_term v8_33 (2 : Int32) v16_190 v17_207)) + (own_term v9_40 (3 : Int32) v16_190 v17_207)) + (own_term v10_47 (4 : Int32) v16_190 v17_207)) + (own_term v11_54 (5 : Int32) v16_190 v17_207)) + (own_term v12_61 (6 : Int32) v16_190 v17_207)) + (own_term v13_69 (7 : Int32) v16_190 v17_207)))]) C (own_m2 l Z a0 hw v14_77 (8 : Int32) v16_190 v17_207 b13 h22 n0 Z_ A_b13 (own_oks hv16_190 hv17_207 (by decide) (by decide))) at_372 (hw _ (List.mem_of_getElem? (i := 15) rfl)) (hw _ (List.mem_of_getElem? (i := 16) rfl)) (hw _ (List.mem_of_getElem? (i := 3) rfl)) (hw _ (List.mem_of_getElem? (i := 17) rfl)) (by decide) (by decide) (by decide) rfl (lenOf pd2 rfl) rfl rfl (Nat.le_of_eq rfl) (by decide) (by decide) rfl ?_
  rintro _ _ ⟨rfl, rfl⟩
  show Wp p l e _ s m _ below meth c n0 _ h22 ((0 + 1) + 1) ((0 + 11) + 9) (mkF m 375 #[.val (.long p0), .second, .val (.int p1), .val (.int p2), .val (.int p3), .val (.int p4), .val (.ref b1), .val (.int v7_26), .val (.int v8_33), .val (.int v9_40), .val (.int v10_47), .val (.int v11_54), .val (.int v12_61), .val (.int v13_69), .val (.int v14_77), .val (.int v15_85), .val (.int v16_190), .val (.int v17_207), .val (.ref b13), .unset, .unset, .unset] [(.long (own_term v14_77 (8 : Int32) v16_190 v17_207)), (.long (((((((own_term v7_26 (1 : Int32) v16_190 v17_207) + (own_term v8_33 (2 : Int32) v16_190 v17_207)) + (own_term v9_40 (3 : Int32) v16_190 v17_207)) + (own_term v10_47 (4 : Int32) v16_190 v17_207)) + (own_term v11_54 (5 : Int32) v16_190 v17_207)) + (own_term v12_61 (6 : Int32) v16_190 v17_207)) + (own_term v13_69 (7 : Int32) v16_190 v17_207)))])
  refine own_ladd (pc' := 376) C at_375 rfl rfl ?_
  refine own_iload (pc' := 378) C at_376 rfl rfl ?_
  refine own_bipush (pc' := 380) (v := (9 : Int32)) C at_378 own_kb_9 rfl ?_
  refine own_iload (pc' := 382) C at_380 rfl rfl ?_
  refine own_iload (pc' := 384) C at_382 rfl rfl ?_
  refine own_aload (pc' := 386) C at_384 rfl rfl rfl ?_
  refine own_callS (pc' := 389) (wL := 2) (argsL := [(.int v15_85), (.int (9 : Int32)), (.int v16_190), (.int v17_207), (.ref b13)]) (rest := [(.long ((((((((own_term v7_26 (1 : Int32) v16_190 v17_207) + (own_term v8_33 (2 : Int32) v16_190 v17_207)) + (own_term v9_40 (3 : Int32) v16_190 v17_207)) + (own_term v10_47 (4 : Int32) v16_190 v17_207)) + (own_term v11_54 (5 : Int32) v16_190 v17_207)) + (own_term v12_61 (6 : Int32) v16_190 v17_207)) + (own_term v13_69 (7 : Int32) v16_190 v17_207)) + (own_term v14_77 (8 : Int32) v16_190 v17_207)))]) C (own_m2 l Z a0 hw v15_85 (9 : Int32) v16_190 v17_207 b13 h22 n0 Z_ A_b13 (own_oks hv16_190 hv17_207 (by decide) (by decide))) at_386 (hw _ (List.mem_of_getElem? (i := 15) rfl)) (hw _ (List.mem_of_getElem? (i := 16) rfl)) (hw _ (List.mem_of_getElem? (i := 3) rfl)) (hw _ (List.mem_of_getElem? (i := 17) rfl)) (by decide) (by decide) (by decide) rfl (lenOf pd2 rfl) rfl rfl (Nat.le_of_eq rfl) (by decide) (by decide) rfl ?_
  rintro _ _ ⟨rfl, rfl⟩
  show Wp p l e _ s m _ below meth c n0 _ h22 ((0 + 1) + 1) ((0 + 11) + 9) (mkF m 389 #[.val (.long p0), .second, .val (.int p1), .val (.int p2), .val (.int p3), .val (.int p4), .val (.ref b1), .val (.int v7_26), .val (.int v8_33), .val (.int v9_40), .val (.int v10_47), .val (.int v11_54), .val (.int v12_61), .val (.int v13_69), .val (.int v14_77), .val (.int v15_85), .val (.int v16_190), .val (.int v17_207), .val (.ref b13), .unset, .unset, .unset] [(.long (own_term v15_85 (9 : Int32) v16_190 v17_207)), (.long ((((((((own_term v7_26 (1 : Int32) v16_190 v17_207) + (own_term v8_33 (2 : Int32) v16_190 v17_207)) + (own_term v9_40 (3 : Int32) v16_190 v17_207)) + (own_term v10_47 (4 : Int32) v16_190 v17_207)) + (own_term v11_54 (5 : Int32) v16_190 v17_207)) + (own_term v12_61 (6 : Int32) v16_190 v17_207)) + (own_term v13_69 (7 : Int32) v16_190 v17_207)) + (own_term v14_77 (8 : Int32) v16_190 v17_207)))])
  refine own_ladd (pc' := 390) C at_389 rfl rfl ?_
  obtain ⟨v19_390, hv19_390⟩ : ∃ z : Int64, z = (((((((((own_term v7_26 (1 : Int32) v16_190 v17_207) + (own_term v8_33 (2 : Int32) v16_190 v17_207)) + (own_term v9_40 (3 : Int32) v16_190 v17_207)) + (own_term v10_47 (4 : Int32) v16_190 v17_207)) + (own_term v11_54 (5 : Int32) v16_190 v17_207)) + (own_term v12_61 (6 : Int32) v16_190 v17_207)) + (own_term v13_69 (7 : Int32) v16_190 v17_207)) + (own_term v14_77 (8 : Int32) v16_190 v17_207)) + (own_term v15_85 (9 : Int32) v16_190 v17_207)) := ⟨_, rfl⟩
  refine own_lstore (pc' := 392) (y := v19_390) (Ls' := #[.val (.long p0), .second, .val (.int p1), .val (.int p2), .val (.int p3), .val (.int p4), .val (.ref b1), .val (.int v7_26), .val (.int v8_33), .val (.int v9_40), .val (.int v10_47), .val (.int v11_54), .val (.int v12_61), .val (.int v13_69), .val (.int v14_77), .val (.int v15_85), .val (.int v16_190), .val (.int v17_207), .val (.ref b13), .val (.long v19_390), .second, .unset]) C at_390 hv19_390.symm rfl rfl ?_
  refine own_aload (pc' := 394) C at_392 rfl rfl rfl ?_
  refine own_iload (pc' := 396) C at_394 rfl rfl ?_
  refine own_iload (pc' := 398) C at_396 rfl rfl ?_
  refine own_callS (pc' := 401) (wL := 0) (argsL := [(.ref b1), (.int v16_190), (.int v17_207)]) (rest := []) C (own_m3 l Z a0 hw b1 v16_190 v17_207 [y12, y96, y106, y116, y126, y136, y147, y158, y169, y180, y20] ((v17_207).toInt - (v16_190).toInt).toNat h22 n0 Z_ A_b1 (by have := own_ft hv16_190 hv17_207; simp; omega) (by have := own_ft hv16_190 hv17_207; omega) (by have := own_ft hv16_190 hv17_207; omega)) at_398 (hw _ (List.mem_of_getElem? (i := 18) rfl)) (hw _ (List.mem_of_getElem? (i := 19) rfl)) (hw _ (List.mem_of_getElem? (i := 20) rfl)) (hw _ (List.mem_of_getElem? (i := 21) rfl)) (by decide) (by decide) (by decide) rfl (lenOf pd3 rfl) rfl rfl (Nat.le_of_eq rfl) (by decide) (by decide) rfl ?_
  rintro _ _ ⟨rfl, rfl⟩
  show Wp p l e _ s m _ below meth c n0 _ h22 ((0 + 1) + 1) ((0 + 11) + 9) (mkF m 401 #[.val (.long p0), .second, .val (.int p1), .val (.int p2), .val (.int p3), .val (.int p4), .val (.ref b1), .val (.int v7_26), .val (.int v8_33), .val (.int v9_40), .val (.int v10_47), .val (.int v11_54), .val (.int v12_61), .val (.int v13_69), .val (.int v14_77), .val (.int v15_85), .val (.int v16_190), .val (.int v17_207), .val (.ref b13), .val (.long v19_390), .second, .unset] [(.int (own_dig [y12, y96, y106, y116, y126, y136, y147, y158, y169, y180, y20] (v16_190).toNatClampNeg ((v17_207).toInt - (v16_190).toInt).toNat 0))])
  obtain ⟨v21_401, hv21_401⟩ : ∃ z : Int32, z = (own_dig [y12, y96, y106, y116, y126, y136, y147, y158, y169, y180, y20] (v16_190).toNatClampNeg ((v17_207).toInt - (v16_190).toInt).toNat 0) := ⟨_, rfl⟩
  refine own_istore (pc' := 403) (y := v21_401) (Ls' := #[.val (.long p0), .second, .val (.int p1), .val (.int p2), .val (.int p3), .val (.int p4), .val (.ref b1), .val (.int v7_26), .val (.int v8_33), .val (.int v9_40), .val (.int v10_47), .val (.int v11_54), .val (.int v12_61), .val (.int v13_69), .val (.int v14_77), .val (.int v15_85), .val (.int v16_190), .val (.int v17_207), .val (.ref b13), .val (.long v19_390), .second, .val (.int v21_401)]) C at_401 hv21_401.symm rfl rfl ?_
  refine own_iload (pc' := 405) C at_403 rfl rfl ?_
  refine own_i2l (pc' := 406) C at_405 rfl rfl ?_
  refine own_lload (pc' := 408) C at_406 rfl rfl ?_
  refine own_lcmp_ne (pt := 416) (pf := 412) C at_408 rfl at_409 (by decide) (by decide) rfl (fun q => absurd (own_plain hv16_190 hv17_207 hv7_26 hv8_33 hv9_40 hv10_47 hv11_54 hv12_61 hv13_69 hv14_77 hv15_85 hy96 hy106 hy116 hy126 hy136 hy147 hy158 hy169 hy180 hv21_401 hv19_390) q) (fun _ => ?_)
  refine own_iconst (pc' := 413) (v := (1 : Int32)) C at_412 own_ki_1 rfl ?_
  refine own_goto (pc' := 417) C at_413 (by decide) (by decide) ?_
  refine own_zret C at_417 (by decide) (by decide) (Or.inr rfl) ?_
  exact rfl
set_option maxRecDepth 65536 in
set_option maxHeartbeats 40000000 in
theorem comes_1 {Post : Tables → Env → Array Value → State → Outcome → State → Prop} (hpost : ∀ tb e args s v u, (limb_1_1.after args s (.returned v) u = true ∧ limb_1_2.after args s (.returned v) u = true ∧ True) → FrameEnd s (.returned v) u (Jvm.fieldLocs frame_1_writes args s ++ Jvm.arrayLocs frame_1_arrays args s ++ Jvm.staticLocs frame_1_statics s) 16 128 → Post tb e args s (.returned v) u) :
    ArmFor flags0 classFile x code maxLocals ret World_1 tables_1 room_1 Calls_1 rest_1 Pre_1 Post := by
  intro l hfl _ _ p e ha hc hk s m args below hf hA hF happ hP
  obtain ⟨hcalls, hrest, hpre⟩ := hP
  obtain ⟨-, -, -, hnamed, -, -, -, hat⟩ := (Spec.applies_iff hf).mp happ
  obtain ⟨hg, hn⟩ := and_e (Cond.before_iff.mp (show (Jvm.Cond.and given_1 narrow_1).before args s = true from hpre))
  obtain ⟨hcount, q0⟩ := and_e hg
  obtain ⟨r0, q1⟩ := and_e q0
  obtain ⟨r1, q2⟩ := and_e q1
  obtain ⟨r2, q3⟩ := and_e q2
  obtain ⟨r3, q4⟩ := and_e q3
  obtain ⟨w0, w1, w2, w3, w4, rfl⟩ : ∃ w0 w1 w2 w3 w4 : Value, args = #[w0, w1, w2, w3, w4] := by
    have hs : args.size = 5 := by simpa [Cond.value, given_1] using hcount
    obtain ⟨L⟩ := args
    match L, hs with
    | [w0, w1, w2, w3, w4], _ => exact ⟨w0, w1, w2, w3, w4, rfl⟩
  have hw := fun d (hd : d ∈ tables_1) => atoms_spec (ws := Jvm.Cond.code x code maxLocals ret :: tables_1) hat d (List.mem_cons_of_mem _ hd)
  obtain ⟨i0, e0⟩ := isL_v r0
  obtain rfl : w0 = (.long i0) := Option.some.inj e0
  obtain ⟨i1, e1⟩ := is_v r1
  obtain rfl : w1 = (.int i1) := Option.some.inj e1
  obtain ⟨i2, e2⟩ := is_v r2
  obtain rfl : w2 = (.int i2) := Option.some.inj e2
  obtain ⟨i3, e3⟩ := is_v r3
  obtain rfl : w3 = (.int i3) := Option.some.inj e3
  obtain ⟨i4, e4⟩ := is_v q4
  obtain rfl : w4 = (.int i4) := Option.some.inj e4
  obtain ⟨n, o, h1, h2, h3, _, L, rfl, ⟨rfl, N⟩, hq⟩ := own_law l s _ hw tables_1 i0 i1 i2 i3 i4  s.heap s.heap.size (Nat.le_refl _)  p e ha hc hk s m _ below hf ((Spec.applies_iff_loose hf).mp happ).1 ⟨rfl, State.Warmed39.refl s, rfl⟩ trivial
  refine ⟨n, _, h1, h2, h3, hpost _ _ _ _ _ _ ⟨Cond.after_iff.mpr rfl, Cond.after_iff.mpr (eq_i res_at (Term.int_eval (1)) rfl), trivial⟩ ⟨hq.1, hq.2.1, (hq.2.2.sift fun y hy => Or.inr (N y hy)).mono (by decide) (by decide)⟩⟩
theorem main_1_1 : Claimed_1_1 := comes_1 fun _ _ _ _ _ _ h hF => ⟨h.1, hF⟩
theorem main_1_2 : Claimed_1_2 := comes_1 fun _ _ _ _ _ _ h hF => ⟨h.2.1, hF⟩
end Jvm.Pilot.@@N@@
namespace Jvm.Pilot.@@N@@
open Jvm Jvm.ClassFile Sem Op Lib Jvm.Free Jvm.Stand Jvm.Pilot.@@N@@.Jvm.D
/-! MADE BY PROGRAM (witnessworld.py) out of the Statement's table words and the real class files: 11 classes; the members and pool entries that the words name. The judged class is class 1, her method 1. -/
namespace start1
open Jvm.ClassFile
def u (s : String) : CpInfo := .utf8 (stringToUtf16 s)
/-- a pool by its gaps: so many unusable entries, then the entry; so many at the end -/
def gap : Nat → List CpInfo → List CpInfo
  | 0, r => r
  | n + 1, r => .unusable :: gap n r
def poolList (es : List (Nat × CpInfo)) (last : Nat) : List CpInfo := es.foldr (fun e r => gap e.1 (e.2 :: r)) (gap last [])
def pool (es : List (Nat × CpInfo)) (last : Nat) : Array CpInfo := ⟨poolList es last⟩
def fileOf (pool : Array CpInfo) (this : Nat) (attrs : Array Attribute := #[]) (ms : Array MethodInfo := #[]) (fl : Nat := 33) (sup : Nat := 0) (ifs : Array Nat := #[]) (fds : Array FieldInfo := #[]) : ClassFile where
  minorVersion := 0
  majorVersion := 65
  constantPool := pool
  accessFlags := fl
  thisClass := this
  superClass := sup
  interfaces := ifs
  fields := fds
  methods := ms
  attributes := attrs
def plain (name : String) (sup : Option ClassId) : Class where
  name := name
  kind := .ordinary
  loader := none
  accessFlags := 33
  super := sup
  interfaces := #[]
  cf := none
  fields := #[]
  methods := #[]
  instanceTypes := #[]
  staticTypes := #[]
  resolved := #[]
  callSites := []
  init := .initialized
  statics := none
  mirror := none

def pool0 : Array CpInfo := pool [(5, u "<init>"), (0, u "()V"), (1, .class_ 10), (1, u "java/lang/Object")] 113

def k0m0 : Method := { name := "<init>", desc := "()V", sig := { parameters := [], returnType := none }, accessFlags := 1, code := none }
/-- java/lang/Object -/
def k0 : Class := { plain "java/lang/Object" none with
  accessFlags := 33
  interfaces := #[]
  cf := some (fileOf pool0 8 #[] #[{ accessFlags := 1, nameIndex := 5, descriptorIndex := 6, attributes := #[] }] 33 0 #[] #[])
  fields := #[]
  methods := #[k0m0]
  instanceTypes := #[]
  staticTypes := #[]
  resolved := Array.replicate 124 none
  statics := none }

def pool1 : Array CpInfo := pool [(2, .class_ 4), (1, u "java/lang/Object"), (0, u "<init>"), (0, u "()V"), (0, .methodref 8 9), (0, .class_ 10), (0, .nameAndType 11 12), (0, u "com/example/vestwork/vestwork/io/PlainNumbersWholeNumberPinLaw"), (0, u "digit"), (0, u "(JI)I"), (0, .integer 2147483647), (0, .long 10), (1, .long 100), (1, .long 1000), (1, .long 10000), (1, .long 100000), (1, .long 1000000), (1, .long 10000000), (1, .long 100000000), (1, .methodref 8 31), (0, .nameAndType 32 33), (0, u "term"), (0, u "(IIII[J)J"), (0, .methodref 35 36), (0, .class_ 37), (0, .nameAndType 38 39), (0, u "com/example/vestwork/vestwork/io/PlainNumbers"), (0, u "wholeNumber"), (0, u "([BII)I"), (2, u "law"), (0, u "(JIIII)Z")] 7

def k1m0 : Method := { name := "<init>", desc := "()V", sig := { parameters := [], returnType := none }, accessFlags := 1, code := none }
def k1c1 : Code := { maxStack := 7, maxLocals := 22, code := code, exceptionTable := #[], attributes := #[] }
def k1m1 : Method := { name := "law", desc := "(JIIII)Z", sig := { parameters := [.long, .int, .int, .int, .int], returnType := some .boolean }, accessFlags := 9, code := some k1c1 }
def k1c2 : Code := { maxStack := 4, maxLocals := 3, code := method_3_code, exceptionTable := #[], attributes := #[] }
def k1m2 : Method := { name := "digit", desc := "(JI)I", sig := { parameters := [.long, .int], returnType := some .int }, accessFlags := 10, code := some k1c2 }
def k1c3 : Code := { maxStack := 5, maxLocals := 5, code := method_4_code, exceptionTable := #[], attributes := #[] }
def k1m3 : Method := { name := "term", desc := "(IIII[J)J", sig := { parameters := [.int, .int, .int, .int, (.array .long)], returnType := some .long }, accessFlags := 10, code := some k1c3 }
/-- com/example/vestwork/vestwork/io/PlainNumbersWholeNumberPinLaw -/
def k1 : Class := { plain "com/example/vestwork/vestwork/io/PlainNumbersWholeNumberPinLaw" (some 0) with
  accessFlags := 49
  interfaces := #[]
  cf := some (fileOf pool1 8 #[] #[{ accessFlags := 1, nameIndex := 5, descriptorIndex := 6, attributes := #[] }, { accessFlags := 9, nameIndex := 42, descriptorIndex := 43, attributes := #[] }, { accessFlags := 10, nameIndex := 11, descriptorIndex := 12, attributes := #[] }, { accessFlags := 10, nameIndex := 32, descriptorIndex := 33, attributes := #[] }] 49 2 #[] #[])
  fields := #[]
  methods := #[k1m0, k1m1, k1m2, k1m3]
  instanceTypes := #[]
  staticTypes := #[]
  resolved := Array.replicate 51 none
  statics := none }

def pool2 : Array CpInfo := pool [(2, .class_ 4), (1, u "java/lang/Object"), (0, u "<init>"), (0, u "()V"), (1, .class_ 10), (1, u "com/example/vestwork/vestwork/io/PlainNumbers"), (9, u "([BII)I"), (39, u "MOST_DIGITS"), (0, u "I"), (2, u "MOST_WHOLE_NUMBER_DIGITS"), (1, u "DIGITS_A_LONG_HOLDS"), (5, u "wholeNumber")] 8

def k2m0 : Method := { name := "<init>", desc := "()V", sig := { parameters := [], returnType := none }, accessFlags := 2, code := none }
def k2c1 : Code := { maxStack := 3, maxLocals := 5, code := prog_100_method_4_code, exceptionTable := #[], attributes := #[] }
def k2m1 : Method := { name := "wholeNumber", desc := "([BII)I", sig := { parameters := [(.array .byte), .int, .int], returnType := some .int }, accessFlags := 8, code := some k2c1 }
/-- com/example/vestwork/vestwork/io/PlainNumbers -/
def k2 : Class := { plain "com/example/vestwork/vestwork/io/PlainNumbers" (some 0) with
  accessFlags := 49
  interfaces := #[]
  cf := some (fileOf pool2 8 #[] #[{ accessFlags := 2, nameIndex := 5, descriptorIndex := 6, attributes := #[] }, { accessFlags := 8, nameIndex := 72, descriptorIndex := 20, attributes := #[] }] 49 2 #[] #[{ accessFlags := 24, nameIndex := 60, descriptorIndex := 61, attributes := #[] }, { accessFlags := 26, nameIndex := 64, descriptorIndex := 61, attributes := #[] }, { accessFlags := 26, nameIndex := 66, descriptorIndex := 61, attributes := #[] }])
  fields := #[{ name := "MOST_DIGITS", type := .int, accessFlags := 24, slot := 0, constantValue := 0 }, { name := "MOST_WHOLE_NUMBER_DIGITS", type := .int, accessFlags := 26, slot := 1, constantValue := 0 }, { name := "DIGITS_A_LONG_HOLDS", type := .int, accessFlags := 26, slot := 2, constantValue := 0 }]
  methods := #[k2m0, k2m1]
  instanceTypes := #[]
  staticTypes := #[.int, .int, .int]
  resolved := Array.replicate 81 none
  statics := none }

def pool3 : Array CpInfo := pool [(1, u "java/lang/Cloneable"), (0, .class_ 1), (0, u "java/lang/Object"), (0, .class_ 3)] 3

/-- java/lang/Cloneable -/
def k3 : Class := { plain "java/lang/Cloneable" (some 0) with
  accessFlags := 1537
  interfaces := #[]
  cf := some (fileOf pool3 2 #[] #[] 1537 4 #[] #[])
  fields := #[]
  methods := #[]
  instanceTypes := #[]
  staticTypes := #[]
  resolved := Array.replicate 8 none
  statics := none }

def pool4 : Array CpInfo := pool [(1, u "java/io/Serializable"), (0, .class_ 1), (0, u "java/lang/Object"), (0, .class_ 3)] 3

/-- java/io/Serializable -/
def k4 : Class := { plain "java/io/Serializable" (some 0) with
  accessFlags := 1537
  interfaces := #[]
  cf := some (fileOf pool4 2 #[] #[] 1537 4 #[] #[])
  fields := #[]
  methods := #[]
  instanceTypes := #[]
  staticTypes := #[]
  resolved := Array.replicate 8 none
  statics := none }

/-- the primitive byte -/
def k5 : Class := { plain "byte" none with kind := .primitive 'B', accessFlags := 0x411 }
/-- [B -/
def k6 : Class := { plain "[B" (some 0) with kind := .array 5 .byte, interfaces := #[3, 4], accessFlags := 1041 }

/-- the primitive int -/
def k7 : Class := { plain "int" none with kind := .primitive 'I', accessFlags := 0x411 }
/-- [I -/
def k8 : Class := { plain "[I" (some 0) with kind := .array 7 .int, interfaces := #[3, 4], accessFlags := 1041 }

/-- the primitive long -/
def k9 : Class := { plain "long" none with kind := .primitive 'J', accessFlags := 0x411 }
/-- [J -/
def k10 : Class := { plain "[J" (some 0) with kind := .array 9 .long, interfaces := #[3, 4], accessFlags := 1041 }

def heap : Heap := #[]
def classes : Array Class := #[k0, k1, k2, k3, k4, k5, k6, k7, k8, k9, k10]
def interned : List (Array UInt16 × Addr) := []
def slotsUsed : Nat := 0
def theMethod : MethodId := ⟨1, 1⟩
def args0 : Array Value := #[.long 5, .int 5, .int 5, .int 5, .int 9]
def aboutOver (below : List Frame) : State where
  vm := { classes := classes, interned := interned.toArray }
  heap := heap
  slotsUsed := slotsUsed
  threads := #[{ frames := .invoking theMethod args0 :: below }]
def below0 : List Frame := [.native { method := ⟨0, 0⟩, args := #[] }]
def about1 : State := aboutOver below0
def p0 : Program := .bare "" "" ""
def e0 : Env := launch0.env 0 0 0
theorem w_frames : about1.frames = Frame.invoking theMethod args0 :: below0 := rfl
set_option maxRecDepth 65536 in
theorem w_args : argsFit about1.vm theMethod args0 = true := by decide +kernel
set_option maxRecDepth 65536 in
theorem w_heap : heapFits about1 = true := by decide +kernel
set_option maxRecDepth 65536 in
theorem w_runnable : about1.curStatus? = some .runnable := by decide +kernel
set_option maxRecDepth 65536 in
theorem w_alone : about1.alone = true := by decide +kernel
set_option maxRecDepth 65536 in
theorem w_named : about1.methodNamed? x = some theMethod := by decide +kernel
set_option maxRecDepth 65536 in
theorem w_hears : about1.hears theMethod below0 = true := by decide +kernel
set_option maxRecDepth 65536 in
theorem w_ripe : about1.ripe theMethod args0 below0 = true := by decide +kernel
theorem w_running : about1.status = .running := rfl
set_option maxRecDepth 65536 in
theorem w_room : about1.hasRoom e0.platform room_1 = true :=
  launch0.hasRoom_least _ room_1 (by decide +kernel) (by decide +kernel) (by decide +kernel) (by decide +kernel) (by decide +kernel) (by decide +kernel)
theorem allAtoms_all (ts : List Jvm.Cond) (a : Array Jvm.Value) (st : Jvm.State) : (allAtoms ts).before a st = ts.all (fun c => c.before a st) := by
  induction ts with
  | nil => rfl
  | cons c t ih =>
    show (Jvm.Cond.and c (allAtoms t)).before a st = _
    rw [Jvm.Cond.before_and, ih, List.all_cons]
def words1 : List Jvm.Cond := Jvm.Cond.code x code maxLocals ret :: tables_1
/-- a 'code' word, met by the world's own term for the bytes: nothing is compared byte by byte -/
theorem code_word {y : MethodName} {bytes : ByteArray} {mx : Nat} {rt : Option FieldType} {a : Array Value} {s : State} {m : MethodId} {meth : Method} {c : Code} (h1 : s.methodNamed? y = some m) (h2 : s.vm.method? m = some meth) (h3 : meth.code = some c) (h4 : c.code = bytes)
    (h5 : (c.maxLocals == mx && c.exceptionTable.isEmpty && decide (c.maxStack ≤ mostOperands) && decide (meth.sig.returnType = rt) && !meth.locks && decide (parseMethodDescriptor y.desc = some meth.sig)) = true) : (Jvm.Cond.code y bytes mx rt).before a s = true := by
  simp only [Bool.and_eq_true, beq_iff_eq, Bool.not_eq_true', decide_eq_true_eq] at h5
  obtain ⟨⟨⟨⟨⟨g1, g2⟩, g3⟩, g4⟩, g5⟩, g6⟩ := h5
  simp [Cond.before, Cond.holds, Cond.value, h1, h2, h3, h4, g1, g2, g3, g4, g5, g6]
def isCode : Jvm.Cond → Bool
  | .code _ _ _ _ => true
  | _ => false
theorem all_split {L : List Jvm.Cond} {P : Jvm.Cond → Bool} (h1 : L.all (fun c => isCode c || P c) = true) (h2 : ∀ c ∈ L.filter isCode, P c = true) : L.all P = true := by
  refine List.all_eq_true.mpr fun c hc => ?_
  have h := List.all_eq_true.mp h1 c hc
  rcases Bool.eq_false_or_eq_true (isCode c) with hi | hi
  · exact h2 c (List.mem_filter.mpr ⟨hc, hi⟩)
  · simpa [hi] using h
set_option maxRecDepth 65536 in
theorem w_c0 : (Jvm.Cond.code x code maxLocals ret).before args0 about1 = true := code_word (m := ⟨1, 1⟩) (meth := k1m1) (c := k1c1) (by decide +kernel) rfl rfl rfl (by decide +kernel)
set_option maxRecDepth 65536 in
theorem w_c1 : (Jvm.Cond.code ({ cls := "com/example/vestwork/vestwork/io/PlainNumbersWholeNumberPinLaw", name := "digit", desc := "(JI)I" } : Jvm.MethodName) method_3_code (3 : Nat) (Option.some Jvm.ClassFile.FieldType.int)).before args0 about1 = true := code_word (m := ⟨1, 2⟩) (meth := k1m2) (c := k1c2) (by decide +kernel) rfl rfl rfl (by decide +kernel)
set_option maxRecDepth 65536 in
theorem w_c2 : (Jvm.Cond.code ({ cls := "com/example/vestwork/vestwork/io/PlainNumbersWholeNumberPinLaw", name := "term", desc := "(IIII[J)J" } : Jvm.MethodName) method_4_code (5 : Nat) (Option.some Jvm.ClassFile.FieldType.long)).before args0 about1 = true := code_word (m := ⟨1, 3⟩) (meth := k1m3) (c := k1c3) (by decide +kernel) rfl rfl rfl (by decide +kernel)
set_option maxRecDepth 65536 in
theorem w_c3 : (Jvm.Cond.code ({ cls := "com/example/vestwork/vestwork/io/PlainNumbers", name := "wholeNumber", desc := "([BII)I" } : Jvm.MethodName) prog_100_method_4_code (5 : Nat) (Option.some Jvm.ClassFile.FieldType.int)).before args0 about1 = true := code_word (m := ⟨2, 1⟩) (meth := k2m1) (c := k2c1) (by decide +kernel) rfl rfl rfl (by decide +kernel)
def codes1 : List Jvm.Cond := [Jvm.Cond.code x code maxLocals ret, Jvm.Cond.code ({ cls := "com/example/vestwork/vestwork/io/PlainNumbersWholeNumberPinLaw", name := "digit", desc := "(JI)I" } : Jvm.MethodName) method_3_code (3 : Nat) (Option.some Jvm.ClassFile.FieldType.int), Jvm.Cond.code ({ cls := "com/example/vestwork/vestwork/io/PlainNumbersWholeNumberPinLaw", name := "term", desc := "(IIII[J)J" } : Jvm.MethodName) method_4_code (5 : Nat) (Option.some Jvm.ClassFile.FieldType.long), Jvm.Cond.code ({ cls := "com/example/vestwork/vestwork/io/PlainNumbers", name := "wholeNumber", desc := "([BII)I" } : Jvm.MethodName) prog_100_method_4_code (5 : Nat) (Option.some Jvm.ClassFile.FieldType.int)]
set_option maxRecDepth 65536 in
theorem codes_eq : words1.filter isCode = codes1 := rfl
theorem w_codes : ∀ c ∈ words1.filter isCode, c.before args0 about1 = true := by
  rw [codes_eq]
  intro c hc
  simp only [codes1, List.mem_cons, List.not_mem_nil, or_false] at hc
  rcases hc with rfl | rfl | rfl | rfl
  · exact w_c0
  · exact w_c1
  · exact w_c2
  · exact w_c3
set_option maxRecDepth 65536 in
theorem w_t1 : words1.all (fun c => isCode c || c.before args0 about1) = true := by decide +kernel
theorem w_tables : (allAtoms (Jvm.Cond.code x code maxLocals ret :: tables_1)).before args0 about1 = true := by
  rw [allAtoms_all]
  show words1.all (fun c => c.before args0 about1) = true
  refine all_split ?_ w_codes
  rw [w_t1]
set_option maxRecDepth 65536 in
theorem w_case : (Jvm.Cond.and given_1 narrow_1).before args0 about1 = true := by decide +kernel
theorem w_applies : (headSpec (Jvm.Cond.code x code maxLocals ret :: tables_1) room_1).applies x e0.platform about1 = true :=
  (Spec.applies_iff w_frames).mpr ⟨w_running, w_runnable, w_alone, w_named, w_hears, w_ripe, w_room, w_tables⟩
theorem atStart : AtStart classFile x code maxLocals ret World_1 tables_1 room_1 Calls_1 rest_1 Pre_1 launch0 p0 e0 about1 theMethod args0 below0 :=
  ⟨lists_1, trivial, launch0.admits_env _ _ _, launch0.least_env, fairChoices_fair.cas, fairChoices_fair.clock, w_frames, w_args, w_heap, w_applies, trivial, trivial, w_case⟩
end start1
theorem witness_1 : WitnessClaimed_1 := ⟨start1.p0, start1.e0, start1.about1, start1.theMethod, start1.args0, start1.below0, start1.atStart⟩
end Jvm.Pilot.@@N@@
