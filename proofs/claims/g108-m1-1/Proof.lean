import JvmDerived
import JvmDerived.Pilot.@@N@@Statement
import JvmDerived.Pilot.@@N@@Code
set_option linter.unusedVariables false
set_option linter.unusedSimpArgs false
namespace Jvm.Pilot.@@N@@
open Jvm Jvm.ClassFile Sem Op Lib Jvm.Free Jvm.Stand Jvm.LawKit Jvm.RoadKit Bundle Jvm.Pilot.@@N@@.Jvm.D
abbrev vU : Slot := .unset
abbrev vS : Slot := .second
abbrev vI (x : Int32) : Slot := .val (.int x)
abbrev vL (x : Int64) : Slot := .val (.long x)
abbrev vR (x : Addr) : Slot := .val (.ref x)
section OwnHead
variable {p : Program} {l : Launch} {e : Env} {R : Room} {s : State} {m : MethodId} {args : Array Value} {below : List Frame} {meth : Method} {c : Code} {T : State} {locs : List Loc} {cells slots : Nat} {Z : State} {a0 : Array Value} {h : Heap} {Q : Option Value → Heap → List Loc → Prop} {ce sl : Nat} {pc pc' : Nat} {Ls : Array Slot} {st : List Value}
def own_G (p : Program) (e : Env) (below : List Frame) (s : State) (Q : Option Value → Heap → List Loc → Prop) (ce sl : Nat) (S : State) : Prop := ∃ s₂ o, Steps p.tables e below S s₂ ∧ s₂.status = .running ∧ Ended s₂ below o ∧ ∃ v L, o = .returned v ∧ Q v s₂.heap L ∧ FrameEnd s o s₂ L ce sl
theorem own_fw {S S' : State} (h : ∀ t, Steps p.tables e below S' t → Steps p.tables e below S t) (g : own_G p e below s Q ce sl S') : own_G p e below s Q ce sl S := by
  obtain ⟨s₂, o, h1, r⟩ := g; exact ⟨s₂, o, h _ h1, r⟩
theorem own_via {S S' : State} (h : own_G p e below s Q ce sl S' → own_G p e below s Q ce sl S) (g : own_G p e below s Q ce sl S') : own_G p e below s Q ce sl S := h g
theorem own_cast {S S' : State} (h : S = S') (g : own_G p e below s Q ce sl S') : own_G p e below s Q ce sl S := h ▸ g
abbrev own_M (l : Launch) (Z : State) (y : MethodName) (bytes : ByteArray) (maxL : Nat) (ret : Option FieldType) (ws : List Jvm.Cond) (rm : Room) (as' : Array Value) (h0 : Heap) (Q : Option Value → Heap → List Loc → Prop) (ce sl : Nat) : Prop := MetFree l y (head1 (Jvm.Cond.code y bytes maxL ret :: ws) rm) (fun a U => a = as' ∧ Z.Warmed39 U.vm ∧ U.heap = h0) (fun _ _ _ _ _ => True) (fun _ U o U' => ∃ v L, o = .returned v ∧ Q v U'.heap L ∧ FrameEnd U o U' L ce sl)
theorem own_body {y : MethodName} {bytes : ByteArray} {maxL : Nat} {ret : Option FieldType} {ws : List Jvm.Cond} {rm : Room} {as' : Array Value} {h0 : Heap} (hp : plainFor y = true)
    (body : ∀ (p : Program) (e : Env) (s : State) (m : MethodId) (below : List Frame) (meth : Method) (c : Code) (s₁ : State), p.tables.exec = Jvm.exec → c.code = bytes → c.maxLocals = maxL → s.vm.findClass y.cls = some m.cls → meth.name = y.name → meth.sig.returnType = ret → meth.locks = false → Z.Warmed39 s.vm → Stand p l e rm s m as' below meth c s₁ [] 0 0 → s₁.heap = h0 → own_G p e below s Q ce sl (s₁.setTop (entryFrame m as' maxL))) : own_M l Z y bytes maxL ret ws rm as' h0 Q ce sl := by
  refine MetFree.of_bodySF hp hisR ?_
  intro p e s m args below meth c s₁ Bd hml hP hK
  obtain ⟨rfl, hZ, hh⟩ := hP
  exact body p e s m below meth c s₁ Bd.exec Bd.bytes hml (findClass_of_methodNamed Bd.named) (name_of_methodNamed Bd.named Bd.method).1 Bd.returns Bd.notSynchronized hZ (Stand.of_body Bd) (by rw [← hh, Bd.state]; rfl)
theorem own_ret (X : Stand p l e R s m args below meth c T locs cells slots) (hx : p.tables.exec = Jvm.exec) {w : Value} {t : FieldType} {i : Instr} (hret : meth.sig.returnType = some t) (hlk : meth.locks = false) (hn : narrow t w = w)
    (hi : (i = .ireturn ∧ (t = .int ∨ t = .boolean ∨ t = .byte ∨ t = .char ∨ t = .short) ∧ ∃ z, w = .int z) ∨ (i = .lreturn ∧ t = .long ∧ ∃ z, w = .long z) ∨ (i = .dreturn ∧ t = .double ∧ ∃ z, w = .double z) ∨ (i = .freturn ∧ t = .float ∧ ∃ z, w = .float z) ∨ (i = .areturn ∧ t.isReference = true ∧ w.isRef = true))
    (hd : decode c.code pc = .ok (i, 1)) (hQ : Q (some w) T.heap locs) (hce : cells ≤ ce) (hsl : slots ≤ sl) : own_G p e below s Q ce sl (T.setTop (mkF m pc Ls (w :: st))) := by
  obtain ⟨fs, hr, hrun, hended, hW, hsame⟩ := X.leave (v := some w) (fun h => by rw [hret] at h; cases h) hlk
  exact ⟨_, _, retOut X hx hret hn hi hd hr, hrun, hended, _, _, rfl, hQ, ⟨_, rfl⟩, hW, hsame.mono hce hsl⟩
theorem own_retI (X : Stand p l e R s m args below meth c T locs cells slots) (hx : p.tables.exec = Jvm.exec) {z : Int32} (hret : meth.sig.returnType = some .int) (hlk : meth.locks = false) (hd : decode c.code pc = .ok (.ireturn, 1)) (hQ : Q (some (.int z)) T.heap locs) (hce : cells ≤ ce) (hsl : slots ≤ sl) : own_G p e below s Q ce sl (T.setTop (mkF m pc Ls (.int z :: st))) := own_ret X hx hret hlk rfl (Or.inl ⟨rfl, Or.inl rfl, z, rfl⟩) hd hQ hce hsl
theorem own_retZ (X : Stand p l e R s m args below meth c T locs cells slots) (hx : p.tables.exec = Jvm.exec) {z : Int32} (hret : meth.sig.returnType = some .boolean) (hlk : meth.locks = false) (hz : z = 0 ∨ z = 1) (hd : decode c.code pc = .ok (.ireturn, 1)) (hQ : Q (some (.int z)) T.heap locs) (hce : cells ≤ ce) (hsl : slots ≤ sl) : own_G p e below s Q ce sl (T.setTop (mkF m pc Ls (.int z :: st))) := own_ret X hx hret hlk (by rcases hz with rfl | rfl <;> rfl) (Or.inl ⟨rfl, Or.inr (Or.inl rfl), z, rfl⟩) hd hQ hce hsl
theorem own_retB (X : Stand p l e R s m args below meth c T locs cells slots) (hx : p.tables.exec = Jvm.exec) {z : Int32} (hret : meth.sig.returnType = some .byte) (hlk : meth.locks = false) (hz : narrow .byte (.int z) = .int z) (hd : decode c.code pc = .ok (.ireturn, 1)) (hQ : Q (some (.int z)) T.heap locs) (hce : cells ≤ ce) (hsl : slots ≤ sl) : own_G p e below s Q ce sl (T.setTop (mkF m pc Ls (.int z :: st))) := own_ret X hx hret hlk hz (Or.inl ⟨rfl, Or.inr (Or.inr (Or.inl rfl)), z, rfl⟩) hd hQ hce hsl
theorem own_retL (X : Stand p l e R s m args below meth c T locs cells slots) (hx : p.tables.exec = Jvm.exec) {z : Int64} (hret : meth.sig.returnType = some .long) (hlk : meth.locks = false) (hd : decode c.code pc = .ok (.lreturn, 1)) (hQ : Q (some (.long z)) T.heap locs) (hce : cells ≤ ce) (hsl : slots ≤ sl) : own_G p e below s Q ce sl (T.setTop (mkF m pc Ls (.long z :: st))) := own_ret X hx hret hlk rfl (Or.inr (Or.inl ⟨rfl, rfl, z, rfl⟩)) hd hQ hce hsl
theorem own_retA (X : Stand p l e R s m args below meth c T locs cells slots) (hx : p.tables.exec = Jvm.exec) {v : Value} {t : FieldType} (hret : meth.sig.returnType = some t) (hlk : meth.locks = false) (ht : t.isReference = true) (hn : narrow t v = v) (hv : v.isRef = true) (hd : decode c.code pc = .ok (.areturn, 1)) (hQ : Q (some v) T.heap locs) (hce : cells ≤ ce) (hsl : slots ≤ sl) : own_G p e below s Q ce sl (T.setTop (mkF m pc Ls (v :: st))) := own_ret X hx hret hlk hn (Or.inr (Or.inr (Or.inr (Or.inr ⟨rfl, ht, hv⟩)))) hd hQ hce hsl
theorem own_retV (X : Stand p l e R s m args below meth c T locs cells slots) (hx : p.tables.exec = Jvm.exec) (hret : meth.sig.returnType = none) (hlk : meth.locks = false) (hd : decode c.code pc = .ok (.return_, 1)) (hQ : Q none T.heap locs) (hce : cells ≤ ce) (hsl : slots ≤ sl) : own_G p e below s Q ce sl (T.setTop (mkF m pc Ls [])) := by
  obtain ⟨fs, hr, hrun, hended, hW, hsame⟩ := X.leave (v := none) (fun _ => rfl) hlk
  exact ⟨_, _, X.returnOut hx hret hd hr, hrun, hended, _, _, rfl, hQ, ⟨_, rfl⟩, hW, hsame.mono hce hsl⟩
theorem own_iloadN {i : Fin 4} {v : Int32} (X : Stand p l e R s m args below meth c T locs cells slots) (hx : p.tables.exec = Jvm.exec) (hd : decode c.code pc = .ok (.iload_n i, 1)) (hl : Ls[i.val]? = some (.val (.int v))) (hp : pc + 1 = pc') (k : own_G p e below s Q ce sl (T.setTop (mkF m pc' Ls (.int v :: st)))) : own_G p e below s Q ce sl (T.setTop (mkF m pc Ls st)) := by
  subst hp; exact own_fw (fun t q => XS.iloadN X.here hx rfl hd hl q) k
theorem own_iload {i : Nat} {v : Int32} (X : Stand p l e R s m args below meth c T locs cells slots) (hx : p.tables.exec = Jvm.exec) (hd : decode c.code pc = .ok (.iload i, 2)) (hl : Ls[i]? = some (.val (.int v))) (hp : pc + 2 = pc') (k : own_G p e below s Q ce sl (T.setTop (mkF m pc' Ls (.int v :: st)))) : own_G p e below s Q ce sl (T.setTop (mkF m pc Ls st)) := by
  subst hp; exact own_fw (fun t q => XS.iload X.here hx rfl hd hl q) k
theorem own_lloadN {i : Fin 4} {v : Int64} (X : Stand p l e R s m args below meth c T locs cells slots) (hx : p.tables.exec = Jvm.exec) (hd : decode c.code pc = .ok (.lload_n i, 1)) (hl : Ls[i.val]? = some (.val (.long v))) (hp : pc + 1 = pc') (k : own_G p e below s Q ce sl (T.setTop (mkF m pc' Ls (.long v :: st)))) : own_G p e below s Q ce sl (T.setTop (mkF m pc Ls st)) := by
  subst hp; exact own_fw (fun t q => XS.lloadN X.here hx rfl hd hl q) k
theorem own_lload {i : Nat} {v : Int64} (X : Stand p l e R s m args below meth c T locs cells slots) (hx : p.tables.exec = Jvm.exec) (hd : decode c.code pc = .ok (.lload i, 2)) (hl : Ls[i]? = some (.val (.long v))) (hp : pc + 2 = pc') (k : own_G p e below s Q ce sl (T.setTop (mkF m pc' Ls (.long v :: st)))) : own_G p e below s Q ce sl (T.setTop (mkF m pc Ls st)) := by
  subst hp; exact own_fw (fun t q => XS.lload X.here hx rfl hd hl q) k
theorem own_aloadN {i : Fin 4} {v : Value} (X : Stand p l e R s m args below meth c T locs cells slots) (hx : p.tables.exec = Jvm.exec) (hd : decode c.code pc = .ok (.aload_n i, 1)) (hl : Ls[i.val]? = some (.val v)) (hv : v.isRef = true) (hp : pc + 1 = pc') (k : own_G p e below s Q ce sl (T.setTop (mkF m pc' Ls (v :: st)))) : own_G p e below s Q ce sl (T.setTop (mkF m pc Ls st)) := by
  subst hp; exact own_fw (fun t q => XS.aloadN X.here hx rfl hd hl hv q) k
theorem own_aload {i : Nat} {v : Value} (X : Stand p l e R s m args below meth c T locs cells slots) (hx : p.tables.exec = Jvm.exec) (hd : decode c.code pc = .ok (.aload i, 2)) (hl : Ls[i]? = some (.val v)) (hv : v.isRef = true) (hp : pc + 2 = pc') (k : own_G p e below s Q ce sl (T.setTop (mkF m pc' Ls (v :: st)))) : own_G p e below s Q ce sl (T.setTop (mkF m pc Ls st)) := by
  subst hp; exact own_fw (fun t q => XS.aload X.here hx rfl hd hl hv q) k
theorem own_istoreN {i : Fin 4} {v : Int32} (X : Stand p l e R s m args below meth c T locs cells slots) (hx : p.tables.exec = Jvm.exec) (hd : decode c.code pc = .ok (.istore_n i, 1)) {l' : Array Slot} (hl : storeLocals Ls i.val (.int v) = some l') (hp : pc + 1 = pc') (k : own_G p e below s Q ce sl (T.setTop (mkF m pc' l' st))) : own_G p e below s Q ce sl (T.setTop (mkF m pc Ls (.int v :: st))) := by
  subst hp; exact own_fw (fun t q => XS.istoreN X.here hx rfl hd rfl hl q) k
theorem own_istore {i : Nat} {v : Int32} (X : Stand p l e R s m args below meth c T locs cells slots) (hx : p.tables.exec = Jvm.exec) (hd : decode c.code pc = .ok (.istore i, 2)) {l' : Array Slot} (hl : storeLocals Ls i (.int v) = some l') (hp : pc + 2 = pc') (k : own_G p e below s Q ce sl (T.setTop (mkF m pc' l' st))) : own_G p e below s Q ce sl (T.setTop (mkF m pc Ls (.int v :: st))) := by
  subst hp; exact own_fw (fun t q => XS.istore X.here hx rfl hd rfl hl q) k
theorem own_lstoreN {i : Fin 4} {v : Int64} (X : Stand p l e R s m args below meth c T locs cells slots) (hx : p.tables.exec = Jvm.exec) (hd : decode c.code pc = .ok (.lstore_n i, 1)) {l' : Array Slot} (hl : storeLocals Ls i.val (.long v) = some l') (hp : pc + 1 = pc') (k : own_G p e below s Q ce sl (T.setTop (mkF m pc' l' st))) : own_G p e below s Q ce sl (T.setTop (mkF m pc Ls (.long v :: st))) := by
  subst hp; exact own_fw (fun t q => XS.lstoreN X.here hx rfl hd rfl hl q) k
theorem own_lstore {i : Nat} {v : Int64} (X : Stand p l e R s m args below meth c T locs cells slots) (hx : p.tables.exec = Jvm.exec) (hd : decode c.code pc = .ok (.lstore i, 2)) {l' : Array Slot} (hl : storeLocals Ls i (.long v) = some l') (hp : pc + 2 = pc') (k : own_G p e below s Q ce sl (T.setTop (mkF m pc' l' st))) : own_G p e below s Q ce sl (T.setTop (mkF m pc Ls (.long v :: st))) := by
  subst hp; exact own_fw (fun t q => XS.lstore X.here hx rfl hd rfl hl q) k
theorem own_astoreN {i : Fin 4} {v : Value} (X : Stand p l e R s m args below meth c T locs cells slots) (hx : p.tables.exec = Jvm.exec) (hd : decode c.code pc = .ok (.astore_n i, 1)) (hv : v.isRef = true) {l' : Array Slot} (hl : storeLocals Ls i.val v = some l') (hp : pc + 1 = pc') (k : own_G p e below s Q ce sl (T.setTop (mkF m pc' l' st))) : own_G p e below s Q ce sl (T.setTop (mkF m pc Ls (v :: st))) := by
  subst hp; exact own_fw (fun t q => XS.astoreN X.here hx rfl hd rfl hv hl q) k
theorem own_astore {i : Nat} {v : Value} (X : Stand p l e R s m args below meth c T locs cells slots) (hx : p.tables.exec = Jvm.exec) (hd : decode c.code pc = .ok (.astore i, 2)) (hv : v.isRef = true) {l' : Array Slot} (hl : storeLocals Ls i v = some l') (hp : pc + 2 = pc') (k : own_G p e below s Q ce sl (T.setTop (mkF m pc' l' st))) : own_G p e below s Q ce sl (T.setTop (mkF m pc Ls (v :: st))) := by
  subst hp; exact own_fw (fun t q => XS.astore X.here hx rfl hd rfl hv hl q) k
theorem own_iconst {i : Int} {z : Int32} (X : Stand p l e R s m args below meth c T locs cells slots) (hx : p.tables.exec = Jvm.exec) (hd : decode c.code pc = .ok (.iconst i, 1)) (hz : Int32.ofInt i = z) (hp : pc + 1 = pc') (k : own_G p e below s Q ce sl (T.setTop (mkF m pc' Ls (.int z :: st)))) : own_G p e below s Q ce sl (T.setTop (mkF m pc Ls st)) := by
  subst hp hz; exact own_fw (fun t q => XS.iconst X.here hx rfl hd q) k
theorem own_bipush {i : Int} {z : Int32} (X : Stand p l e R s m args below meth c T locs cells slots) (hx : p.tables.exec = Jvm.exec) (hd : decode c.code pc = .ok (.bipush i, 2)) (hz : (Int8.ofInt i).toInt32 = z) (hp : pc + 2 = pc') (k : own_G p e below s Q ce sl (T.setTop (mkF m pc' Ls (.int z :: st)))) : own_G p e below s Q ce sl (T.setTop (mkF m pc Ls st)) := by
  subst hp hz; exact own_fw (fun t q => XS.bipush X.here hx rfl hd q) k
theorem own_sipush {i : Int} {z : Int32} (X : Stand p l e R s m args below meth c T locs cells slots) (hx : p.tables.exec = Jvm.exec) (hd : decode c.code pc = .ok (.sipush i, 3)) (hz : (Int16.ofInt i).toInt32 = z) (hp : pc + 3 = pc') (k : own_G p e below s Q ce sl (T.setTop (mkF m pc' Ls (.int z :: st)))) : own_G p e below s Q ce sl (T.setTop (mkF m pc Ls st)) := by
  subst hp hz; exact own_fw (fun t q => XS.sipush X.here hx rfl hd q) k
theorem own_lconst {i : Fin 2} {z : Int64} (X : Stand p l e R s m args below meth c T locs cells slots) (hx : p.tables.exec = Jvm.exec) (hd : decode c.code pc = .ok (.lconst i, 1)) (hz : Int64.ofNat i = z) (hp : pc + 1 = pc') (k : own_G p e below s Q ce sl (T.setTop (mkF m pc' Ls (.long z :: st)))) : own_G p e below s Q ce sl (T.setTop (mkF m pc Ls st)) := by
  subst hp hz; exact own_fw (fun t q => XS.lconst X.here hx rfl hd q) k
theorem own_aconstNull (X : Stand p l e R s m args below meth c T locs cells slots) (hx : p.tables.exec = Jvm.exec) (hd : decode c.code pc = .ok (.aconst_null, 1)) (hp : pc + 1 = pc') (k : own_G p e below s Q ce sl (T.setTop (mkF m pc' Ls (.null :: st)))) : own_G p e below s Q ce sl (T.setTop (mkF m pc Ls st)) := by
  subst hp; exact own_fw (fun t q => XS.aconstNull X.here hx rfl hd q) k
theorem own_ldc (X : Stand p l e R s m args below meth c T locs cells slots) (hx : p.tables.exec = Jvm.exec) (hZ : Z.Warmed39 s.vm) {own : String} {index : Nat} {v : Int32} (hown : s.vm.findClass own = some m.cls) (w1 : (Jvm.Cond.constant own index v).before a0 Z = true) (hd : decode c.code pc = .ok (.ldc index, 2)) (hp : pc + 2 = pc') (k : own_G p e below s Q ce sl (T.setTop (mkF m pc' Ls (.int v :: st)))) : own_G p e below s Q ce sl (T.setTop (mkF m pc Ls st)) := by
  subst hp; exact own_fw (X.ldcInt hx hown (mvT hZ w1) (g := mkF m pc Ls st) rfl hd) k
theorem own_ldc2 (X : Stand p l e R s m args below meth c T locs cells slots) (hx : p.tables.exec = Jvm.exec) (hZ : Z.Warmed39 s.vm) {own : String} {index : Nat} {v : Int64} (hown : s.vm.findClass own = some m.cls) (w1 : (Jvm.Cond.constantLong own index v).before a0 Z = true) (hd : decode c.code pc = .ok (.ldc2_w index, 3)) (hp : pc + 3 = pc') (k : own_G p e below s Q ce sl (T.setTop (mkF m pc' Ls (.long v :: st)))) : own_G p e below s Q ce sl (T.setTop (mkF m pc Ls st)) := by
  subst hp; exact own_fw (X.ldc2Long hx hown (mvT hZ w1) (g := mkF m pc Ls st) rfl hd) k
theorem own_iadd {x y : Int32} (X : Stand p l e R s m args below meth c T locs cells slots) (hx : p.tables.exec = Jvm.exec) (hd : decode c.code pc = .ok (.iadd, 1)) (hp : pc + 1 = pc') (k : own_G p e below s Q ce sl (T.setTop (mkF m pc' Ls (.int (x + y) :: st)))) : own_G p e below s Q ce sl (T.setTop (mkF m pc Ls (.int y :: .int x :: st))) := by
  subst hp; exact own_fw (fun t q => XS.iadd X.here hx rfl hd rfl q) k
theorem own_isub {x y : Int32} (X : Stand p l e R s m args below meth c T locs cells slots) (hx : p.tables.exec = Jvm.exec) (hd : decode c.code pc = .ok (.isub, 1)) (hp : pc + 1 = pc') (k : own_G p e below s Q ce sl (T.setTop (mkF m pc' Ls (.int (x - y) :: st)))) : own_G p e below s Q ce sl (T.setTop (mkF m pc Ls (.int y :: .int x :: st))) := by
  subst hp; exact own_fw (fun t q => XS.isub X.here hx rfl hd rfl q) k
theorem own_imul {x y : Int32} (X : Stand p l e R s m args below meth c T locs cells slots) (hx : p.tables.exec = Jvm.exec) (hd : decode c.code pc = .ok (.imul, 1)) (hp : pc + 1 = pc') (k : own_G p e below s Q ce sl (T.setTop (mkF m pc' Ls (.int (x * y) :: st)))) : own_G p e below s Q ce sl (T.setTop (mkF m pc Ls (.int y :: .int x :: st))) := by
  subst hp; exact own_fw (fun t q => XS.imul X.here hx rfl hd rfl q) k
theorem own_iand {x y : Int32} (X : Stand p l e R s m args below meth c T locs cells slots) (hx : p.tables.exec = Jvm.exec) (hd : decode c.code pc = .ok (.iand, 1)) (hp : pc + 1 = pc') (k : own_G p e below s Q ce sl (T.setTop (mkF m pc' Ls (.int (x &&& y) :: st)))) : own_G p e below s Q ce sl (T.setTop (mkF m pc Ls (.int y :: .int x :: st))) := by
  subst hp; exact own_fw (fun t q => XS.iand X.here hx rfl hd rfl q) k
theorem own_ior {x y : Int32} (X : Stand p l e R s m args below meth c T locs cells slots) (hx : p.tables.exec = Jvm.exec) (hd : decode c.code pc = .ok (.ior, 1)) (hp : pc + 1 = pc') (k : own_G p e below s Q ce sl (T.setTop (mkF m pc' Ls (.int (x ||| y) :: st)))) : own_G p e below s Q ce sl (T.setTop (mkF m pc Ls (.int y :: .int x :: st))) := by
  subst hp; exact own_fw (fun t q => XS.ior X.here hx rfl hd rfl q) k
theorem own_ixor {x y : Int32} (X : Stand p l e R s m args below meth c T locs cells slots) (hx : p.tables.exec = Jvm.exec) (hd : decode c.code pc = .ok (.ixor, 1)) (hp : pc + 1 = pc') (k : own_G p e below s Q ce sl (T.setTop (mkF m pc' Ls (.int (x ^^^ y) :: st)))) : own_G p e below s Q ce sl (T.setTop (mkF m pc Ls (.int y :: .int x :: st))) := by
  subst hp; exact own_fw (fun t q => XS.ixor X.here hx rfl hd rfl q) k
theorem own_ishl {x y : Int32} (X : Stand p l e R s m args below meth c T locs cells slots) (hx : p.tables.exec = Jvm.exec) (hd : decode c.code pc = .ok (.ishl, 1)) (hp : pc + 1 = pc') (k : own_G p e below s Q ce sl (T.setTop (mkF m pc' Ls (.int (x <<< (y &&& 31)) :: st)))) : own_G p e below s Q ce sl (T.setTop (mkF m pc Ls (.int y :: .int x :: st))) := by
  subst hp; exact own_fw (fun t q => XS.ishl X.here hx rfl hd rfl q) k
theorem own_ishr {x y : Int32} (X : Stand p l e R s m args below meth c T locs cells slots) (hx : p.tables.exec = Jvm.exec) (hd : decode c.code pc = .ok (.ishr, 1)) (hp : pc + 1 = pc') (k : own_G p e below s Q ce sl (T.setTop (mkF m pc' Ls (.int (x >>> (y &&& 31)) :: st)))) : own_G p e below s Q ce sl (T.setTop (mkF m pc Ls (.int y :: .int x :: st))) := by
  subst hp; exact own_fw (fun t q => XS.ishr X.here hx rfl hd rfl q) k
theorem own_iushr {x y : Int32} (X : Stand p l e R s m args below meth c T locs cells slots) (hx : p.tables.exec = Jvm.exec) (hd : decode c.code pc = .ok (.iushr, 1)) (hp : pc + 1 = pc') (k : own_G p e below s Q ce sl (T.setTop (mkF m pc' Ls (.int ((x.toUInt32 >>> (y &&& 31).toUInt32).toInt32) :: st)))) : own_G p e below s Q ce sl (T.setTop (mkF m pc Ls (.int y :: .int x :: st))) := by
  subst hp; exact own_fw (fun t q => XS.iushr X.here hx rfl hd rfl q) k
theorem own_ladd {x y : Int64} (X : Stand p l e R s m args below meth c T locs cells slots) (hx : p.tables.exec = Jvm.exec) (hd : decode c.code pc = .ok (.ladd, 1)) (hp : pc + 1 = pc') (k : own_G p e below s Q ce sl (T.setTop (mkF m pc' Ls (.long (x + y) :: st)))) : own_G p e below s Q ce sl (T.setTop (mkF m pc Ls (.long y :: .long x :: st))) := by
  subst hp; exact own_fw (fun t q => XS.ladd X.here hx rfl hd rfl q) k
theorem own_lsub {x y : Int64} (X : Stand p l e R s m args below meth c T locs cells slots) (hx : p.tables.exec = Jvm.exec) (hd : decode c.code pc = .ok (.lsub, 1)) (hp : pc + 1 = pc') (k : own_G p e below s Q ce sl (T.setTop (mkF m pc' Ls (.long (x - y) :: st)))) : own_G p e below s Q ce sl (T.setTop (mkF m pc Ls (.long y :: .long x :: st))) := by
  subst hp; exact own_fw (fun t q => XS.lsub X.here hx rfl hd rfl q) k
theorem own_lmul {x y : Int64} (X : Stand p l e R s m args below meth c T locs cells slots) (hx : p.tables.exec = Jvm.exec) (hd : decode c.code pc = .ok (.lmul, 1)) (hp : pc + 1 = pc') (k : own_G p e below s Q ce sl (T.setTop (mkF m pc' Ls (.long (x * y) :: st)))) : own_G p e below s Q ce sl (T.setTop (mkF m pc Ls (.long y :: .long x :: st))) := by
  subst hp; exact own_fw (fun t q => XS.lmul X.here hx rfl hd rfl q) k
theorem own_land {x y : Int64} (X : Stand p l e R s m args below meth c T locs cells slots) (hx : p.tables.exec = Jvm.exec) (hd : decode c.code pc = .ok (.land, 1)) (hp : pc + 1 = pc') (k : own_G p e below s Q ce sl (T.setTop (mkF m pc' Ls (.long (x &&& y) :: st)))) : own_G p e below s Q ce sl (T.setTop (mkF m pc Ls (.long y :: .long x :: st))) := by
  subst hp; exact own_fw (fun t q => XS.land X.here hx rfl hd rfl q) k
theorem own_lor {x y : Int64} (X : Stand p l e R s m args below meth c T locs cells slots) (hx : p.tables.exec = Jvm.exec) (hd : decode c.code pc = .ok (.lor, 1)) (hp : pc + 1 = pc') (k : own_G p e below s Q ce sl (T.setTop (mkF m pc' Ls (.long (x ||| y) :: st)))) : own_G p e below s Q ce sl (T.setTop (mkF m pc Ls (.long y :: .long x :: st))) := by
  subst hp; exact own_fw (fun t q => XS.lor X.here hx rfl hd rfl q) k
theorem own_lxor {x y : Int64} (X : Stand p l e R s m args below meth c T locs cells slots) (hx : p.tables.exec = Jvm.exec) (hd : decode c.code pc = .ok (.lxor, 1)) (hp : pc + 1 = pc') (k : own_G p e below s Q ce sl (T.setTop (mkF m pc' Ls (.long (x ^^^ y) :: st)))) : own_G p e below s Q ce sl (T.setTop (mkF m pc Ls (.long y :: .long x :: st))) := by
  subst hp; exact own_fw (fun t q => XS.lxor X.here hx rfl hd rfl q) k
theorem own_lshl {x : Int64} {y : Int32} (X : Stand p l e R s m args below meth c T locs cells slots) (hx : p.tables.exec = Jvm.exec) (hd : decode c.code pc = .ok (.lshl, 1)) (hp : pc + 1 = pc') (k : own_G p e below s Q ce sl (T.setTop (mkF m pc' Ls (.long (x <<< (y &&& 0x3f).toInt64) :: st)))) : own_G p e below s Q ce sl (T.setTop (mkF m pc Ls (.int y :: .long x :: st))) := by
  subst hp; exact own_fw (fun t q => XS.lshl X.here hx rfl hd rfl q) k
theorem own_lshr {x : Int64} {y : Int32} (X : Stand p l e R s m args below meth c T locs cells slots) (hx : p.tables.exec = Jvm.exec) (hd : decode c.code pc = .ok (.lshr, 1)) (hp : pc + 1 = pc') (k : own_G p e below s Q ce sl (T.setTop (mkF m pc' Ls (.long (x >>> (y &&& 0x3f).toInt64) :: st)))) : own_G p e below s Q ce sl (T.setTop (mkF m pc Ls (.int y :: .long x :: st))) := by
  subst hp; exact own_fw (fun t q => XS.lshr X.here hx rfl hd rfl q) k
theorem own_lushr {x : Int64} {y : Int32} (X : Stand p l e R s m args below meth c T locs cells slots) (hx : p.tables.exec = Jvm.exec) (hd : decode c.code pc = .ok (.lushr, 1)) (hp : pc + 1 = pc') (k : own_G p e below s Q ce sl (T.setTop (mkF m pc' Ls (.long ((x.toUInt64 >>> (y &&& 0x3f).toInt64.toUInt64).toInt64) :: st)))) : own_G p e below s Q ce sl (T.setTop (mkF m pc Ls (.int y :: .long x :: st))) := by
  subst hp; exact own_fw (fun t q => XS.lushr X.here hx rfl hd rfl q) k
theorem own_idiv {x y : Int32} (X : Stand p l e R s m args below meth c T locs cells slots) (hx : p.tables.exec = Jvm.exec) (hd : decode c.code pc = .ok (.idiv, 1)) (hy : y ≠ 0) (hp : pc + 1 = pc') (k : own_G p e below s Q ce sl (T.setTop (mkF m pc' Ls (.int (x / y) :: st)))) : own_G p e below s Q ce sl (T.setTop (mkF m pc Ls (.int y :: .int x :: st))) := by
  subst hp; exact own_fw (fun t q => XS.idiv X.here hx rfl hd rfl hy q) k
theorem own_ldiv {x y : Int64} (X : Stand p l e R s m args below meth c T locs cells slots) (hx : p.tables.exec = Jvm.exec) (hd : decode c.code pc = .ok (.ldiv, 1)) (hy : y ≠ 0) (hp : pc + 1 = pc') (k : own_G p e below s Q ce sl (T.setTop (mkF m pc' Ls (.long (x / y) :: st)))) : own_G p e below s Q ce sl (T.setTop (mkF m pc Ls (.long y :: .long x :: st))) := by
  subst hp; exact own_fw (fun t q => XS.ldiv X.here hx rfl hd rfl hy q) k
theorem own_irem {x y : Int32} (X : Stand p l e R s m args below meth c T locs cells slots) (hx : p.tables.exec = Jvm.exec) (hd : decode c.code pc = .ok (.irem, 1)) (hy : y ≠ 0) (hp : pc + 1 = pc') (k : own_G p e below s Q ce sl (T.setTop (mkF m pc' Ls (.int (x % y) :: st)))) : own_G p e below s Q ce sl (T.setTop (mkF m pc Ls (.int y :: .int x :: st))) := by
  subst hp; exact own_fw (fun t q => iremM X hx rfl hd rfl hy q) k
theorem own_lrem {x y : Int64} (X : Stand p l e R s m args below meth c T locs cells slots) (hx : p.tables.exec = Jvm.exec) (hd : decode c.code pc = .ok (.lrem, 1)) (hy : y ≠ 0) (hp : pc + 1 = pc') (k : own_G p e below s Q ce sl (T.setTop (mkF m pc' Ls (.long (x % y) :: st)))) : own_G p e below s Q ce sl (T.setTop (mkF m pc Ls (.long y :: .long x :: st))) := by
  subst hp; rw [← lrem_mod] at k; exact own_fw (fun t q => XS.lrem X.here hx rfl hd rfl hy q) k
theorem own_ineg {x : Int32} (X : Stand p l e R s m args below meth c T locs cells slots) (hx : p.tables.exec = Jvm.exec) (hd : decode c.code pc = .ok (.ineg, 1)) (hp : pc + 1 = pc') (k : own_G p e below s Q ce sl (T.setTop (mkF m pc' Ls (.int (-x) :: st)))) : own_G p e below s Q ce sl (T.setTop (mkF m pc Ls (.int x :: st))) := by
  subst hp; exact own_fw (fun t q => XS.ineg X.here hx rfl hd rfl q) k
theorem own_lneg {x : Int64} (X : Stand p l e R s m args below meth c T locs cells slots) (hx : p.tables.exec = Jvm.exec) (hd : decode c.code pc = .ok (.lneg, 1)) (hp : pc + 1 = pc') (k : own_G p e below s Q ce sl (T.setTop (mkF m pc' Ls (.long (-x) :: st)))) : own_G p e below s Q ce sl (T.setTop (mkF m pc Ls (.long x :: st))) := by
  subst hp; exact own_fw (fun t q => XS.lneg X.here hx rfl hd rfl q) k
theorem own_i2l {x : Int32} (X : Stand p l e R s m args below meth c T locs cells slots) (hx : p.tables.exec = Jvm.exec) (hd : decode c.code pc = .ok (.i2l, 1)) (hp : pc + 1 = pc') (k : own_G p e below s Q ce sl (T.setTop (mkF m pc' Ls (.long x.toInt64 :: st)))) : own_G p e below s Q ce sl (T.setTop (mkF m pc Ls (.int x :: st))) := by
  subst hp; exact own_fw (fun t q => XS.i2l X.here hx rfl hd rfl q) k
theorem own_l2i {x : Int64} (X : Stand p l e R s m args below meth c T locs cells slots) (hx : p.tables.exec = Jvm.exec) (hd : decode c.code pc = .ok (.l2i, 1)) (hp : pc + 1 = pc') (k : own_G p e below s Q ce sl (T.setTop (mkF m pc' Ls (.int x.toInt32 :: st)))) : own_G p e below s Q ce sl (T.setTop (mkF m pc Ls (.long x :: st))) := by
  subst hp; exact own_fw (fun t q => XS.l2i X.here hx rfl hd rfl q) k
theorem own_i2b {x : Int32} (X : Stand p l e R s m args below meth c T locs cells slots) (hx : p.tables.exec = Jvm.exec) (hd : decode c.code pc = .ok (.i2b, 1)) (hp : pc + 1 = pc') (k : own_G p e below s Q ce sl (T.setTop (mkF m pc' Ls (.int x.toInt8.toInt32 :: st)))) : own_G p e below s Q ce sl (T.setTop (mkF m pc Ls (.int x :: st))) := by
  subst hp; exact own_fw (fun t q => XS.i2b X.here hx rfl hd rfl q) k
theorem own_lcmp {x y : Int64} (X : Stand p l e R s m args below meth c T locs cells slots) (hx : p.tables.exec = Jvm.exec) (hd : decode c.code pc = .ok (.lcmp, 1)) (hp : pc + 1 = pc') (k : own_G p e below s Q ce sl (T.setTop (mkF m pc' Ls (.int (lcmpW x y) :: st)))) : own_G p e below s Q ce sl (T.setTop (mkF m pc Ls (.long y :: .long x :: st))) := by
  subst hp; exact own_fw (fun t q => XS.lcmp X.here hx rfl hd rfl q) k
theorem own_dup {x : Value} (X : Stand p l e R s m args below meth c T locs cells slots) (hx : p.tables.exec = Jvm.exec) (hd : decode c.code pc = .ok (.dup, 1)) (hc : x.category = 1) (hp : pc + 1 = pc') (k : own_G p e below s Q ce sl (T.setTop (mkF m pc' Ls (x :: x :: st)))) : own_G p e below s Q ce sl (T.setTop (mkF m pc Ls (x :: st))) := by
  subst hp; exact own_fw (fun t q => XS.dup X.here hx rfl hd rfl hc q) k
theorem own_pop {x : Value} (X : Stand p l e R s m args below meth c T locs cells slots) (hx : p.tables.exec = Jvm.exec) (hd : decode c.code pc = .ok (.pop, 1)) (hc : x.category = 1) (hp : pc + 1 = pc') (k : own_G p e below s Q ce sl (T.setTop (mkF m pc' Ls st))) : own_G p e below s Q ce sl (T.setTop (mkF m pc Ls (x :: st))) := by
  subst hp; exact own_fw (fun t q => XS.pop X.here hx rfl hd rfl hc q) k
theorem own_dupX1 {x y : Value} (X : Stand p l e R s m args below meth c T locs cells slots) (hx : p.tables.exec = Jvm.exec) (hd : decode c.code pc = .ok (.dup_x1, 1)) (hc : x.category = 1) (hc' : y.category = 1) (hp : pc + 1 = pc') (k : own_G p e below s Q ce sl (T.setTop (mkF m pc' Ls (x :: y :: x :: st)))) : own_G p e below s Q ce sl (T.setTop (mkF m pc Ls (x :: y :: st))) := by
  subst hp; exact own_fw (fun t q => XS.dupX1 X.here hx rfl hd rfl hc hc' q) k
theorem own_dup2 {x y : Value} (X : Stand p l e R s m args below meth c T locs cells slots) (hx : p.tables.exec = Jvm.exec) (hd : decode c.code pc = .ok (.dup2, 1)) (hc : x.category = 1) (hc' : y.category = 1) (hp : pc + 1 = pc') (k : own_G p e below s Q ce sl (T.setTop (mkF m pc' Ls (x :: y :: x :: y :: st)))) : own_G p e below s Q ce sl (T.setTop (mkF m pc Ls (x :: y :: st))) := by
  subst hp; exact own_fw (fun t q => XT.dup2 X.here hx rfl hd rfl hc hc' q) k
theorem own_iinc {i : Nat} {cst : Int} {x z : Int32} (X : Stand p l e R s m args below meth c T locs cells slots) (hx : p.tables.exec = Jvm.exec) (hd : decode c.code pc = .ok (.iinc i cst, 3)) (hl : Ls[i]? = some (.val (.int x))) (hz : Int32.ofInt cst = z) {l' : Array Slot} (hl' : storeLocals Ls i (.int (x + z)) = some l') (hp : pc + 3 = pc') (k : own_G p e below s Q ce sl (T.setTop (mkF m pc' l' st))) : own_G p e below s Q ce sl (T.setTop (mkF m pc Ls st)) := by
  subst hp hz; exact own_fw (fun t q => XS.iinc X.here hx rfl hd hl hl' q) k
theorem own_goto {o : Int} (X : Stand p l e R s m args below meth c T locs cells slots) (hx : p.tables.exec = Jvm.exec) (hd : decode c.code pc = .ok (.goto o, 3)) (ho : 0 ≤ (pc : Int) + o) (hp : ((pc : Int) + o).toNat = pc') (k : own_G p e below s Q ce sl (T.setTop (mkF m pc' Ls st))) : own_G p e below s Q ce sl (T.setTop (mkF m pc Ls st)) := own_fw (fun t q => XS.goto X.here hx rfl (pc0 := pc) rfl hd ho hp q) k
theorem own_icmpT {o : Int} {cd : ClassFile.Cond} {x y : Int32} (X : Stand p l e R s m args below meth c T locs cells slots) (hx : p.tables.exec = Jvm.exec) (hd : decode c.code pc = .ok (.if_icmp cd o, 3)) (hc : if_icmp.holds cd x y = true) (ho : 0 ≤ (pc : Int) + o) (hp : ((pc : Int) + o).toNat = pc') (k : own_G p e below s Q ce sl (T.setTop (mkF m pc' Ls st))) : own_G p e below s Q ce sl (T.setTop (mkF m pc Ls (.int y :: .int x :: st))) := own_fw (fun t q => XS.icmpYes X.here hx rfl (pc0 := pc) rfl hd rfl hc ho hp q) k
theorem own_icmpF {o : Int} {cd : ClassFile.Cond} {x y : Int32} (X : Stand p l e R s m args below meth c T locs cells slots) (hx : p.tables.exec = Jvm.exec) (hd : decode c.code pc = .ok (.if_icmp cd o, 3)) (hc : if_icmp.holds cd x y = false) (hp : pc + 3 = pc') (k : own_G p e below s Q ce sl (T.setTop (mkF m pc' Ls st))) : own_G p e below s Q ce sl (T.setTop (mkF m pc Ls (.int y :: .int x :: st))) := by
  subst hp; exact own_fw (fun t q => XS.icmpNo X.here hx rfl hd rfl hc q) k
theorem own_ifT {o : Int} {cd : ClassFile.Cond} {x : Int32} (X : Stand p l e R s m args below meth c T locs cells slots) (hx : p.tables.exec = Jvm.exec) (hd : decode c.code pc = .ok (.ifCond cd o, 3)) (hc : if_icmp.holds cd x 0 = true) (ho : 0 ≤ (pc : Int) + o) (hp : ((pc : Int) + o).toNat = pc') (k : own_G p e below s Q ce sl (T.setTop (mkF m pc' Ls st))) : own_G p e below s Q ce sl (T.setTop (mkF m pc Ls (.int x :: st))) := own_fw (fun t q => XS.ifYes X.here hx rfl (pc0 := pc) rfl hd rfl ((if0 cd x).trans hc) ho hp q) k
theorem own_ifF {o : Int} {cd : ClassFile.Cond} {x : Int32} (X : Stand p l e R s m args below meth c T locs cells slots) (hx : p.tables.exec = Jvm.exec) (hd : decode c.code pc = .ok (.ifCond cd o, 3)) (hc : if_icmp.holds cd x 0 = false) (hp : pc + 3 = pc') (k : own_G p e below s Q ce sl (T.setTop (mkF m pc' Ls st))) : own_G p e below s Q ce sl (T.setTop (mkF m pc Ls (.int x :: st))) := by
  subst hp; exact own_fw (fun t q => XS.ifNo X.here hx rfl hd rfl ((if0 cd x).trans hc) q) k
theorem own_ltL {x y : Int64} (h : x < y) : if_icmp.holds .lt (lcmpW x y) 0 = true ∧ if_icmp.holds .ge (lcmpW x y) 0 = false ∧ if_icmp.holds .gt (lcmpW y x) 0 = true ∧ if_icmp.holds .le (lcmpW y x) 0 = false := by
  have h1 := (lw_lt x y).mpr h
  have h2 := (lw_gt y x).mpr h
  exact ⟨(tlt h1).1, (tlt h1).2.1, (tlt h2).2.2.1, (tlt h2).2.2.2⟩
theorem own_geL {x y : Int64} (h : ¬ x < y) : if_icmp.holds .lt (lcmpW x y) 0 = false ∧ if_icmp.holds .ge (lcmpW x y) 0 = true ∧ if_icmp.holds .gt (lcmpW y x) 0 = false ∧ if_icmp.holds .le (lcmpW y x) 0 = true := by
  have h1 : ¬ lcmpW x y < 0 := fun q => h ((lw_lt x y).mp q)
  have h2 : ¬ 0 < lcmpW y x := fun q => h ((lw_gt y x).mp q)
  exact ⟨(flt h1).1, (flt h1).2.1, (flt h2).2.2.1, (flt h2).2.2.2⟩
theorem own_eqL {x y : Int64} (h : x = y) : if_icmp.holds .eq (lcmpW x y) 0 = true ∧ if_icmp.holds .ne (lcmpW x y) 0 = false := teq ((lw_eq x y).mpr h)
theorem own_neL {x y : Int64} (h : ¬ x = y) : if_icmp.holds .eq (lcmpW x y) 0 = false ∧ if_icmp.holds .ne (lcmpW x y) 0 = true := feq (fun q => h ((lw_eq x y).mp q))
theorem own_bT {P : Prop} [Decidable P] (h : P) : if_icmp.holds .eq (if P then (1 : Int32) else 0) 0 = false ∧ if_icmp.holds .ne (if P then (1 : Int32) else 0) 0 = true := by rw [if_pos h]; exact ⟨rfl, rfl⟩
theorem own_bF {P : Prop} [Decidable P] (h : ¬ P) : if_icmp.holds .eq (if P then (1 : Int32) else 0) 0 = true ∧ if_icmp.holds .ne (if P then (1 : Int32) else 0) 0 = false := by rw [if_neg h]; exact ⟨rfl, rfl⟩
theorem own_b01 {P : Prop} [Decidable P] : (if P then (1 : Int32) else 0) = 0 ∨ (if P then (1 : Int32) else 0) = 1 := by by_cases h : P <;> simp [h]
theorem own_ifnonnullT {o : Int} {b : Addr} (X : Stand p l e R s m args below meth c T locs cells slots) (hx : p.tables.exec = Jvm.exec) (hd : decode c.code pc = .ok (.ifnonnull o, 3)) (ho : 0 ≤ (pc : Int) + o) (hp : ((pc : Int) + o).toNat = pc') (k : own_G p e below s Q ce sl (T.setTop (mkF m pc' Ls st))) : own_G p e below s Q ce sl (T.setTop (mkF m pc Ls (.ref b :: st))) := own_fw (fun t q => XS.ifnonnullYes X.here hx rfl (pc0 := pc) rfl hd rfl ho hp q) k
theorem own_ifnonnullF {o : Int} (X : Stand p l e R s m args below meth c T locs cells slots) (hx : p.tables.exec = Jvm.exec) (hd : decode c.code pc = .ok (.ifnonnull o, 3)) (hp : pc + 3 = pc') (k : own_G p e below s Q ce sl (T.setTop (mkF m pc' Ls st))) : own_G p e below s Q ce sl (T.setTop (mkF m pc Ls (.null :: st))) := by
  subst hp; exact own_fw (fun t q => XS.ifnonnullNo X.here hx rfl hd rfl q) k
theorem own_ifnullT {o : Int} (X : Stand p l e R s m args below meth c T locs cells slots) (hx : p.tables.exec = Jvm.exec) (hd : decode c.code pc = .ok (.ifnull o, 3)) (ho : 0 ≤ (pc : Int) + o) (hp : ((pc : Int) + o).toNat = pc') (k : own_G p e below s Q ce sl (T.setTop (mkF m pc' Ls st))) : own_G p e below s Q ce sl (T.setTop (mkF m pc Ls (.null :: st))) := own_fw (fun t q => XS.ifnullYes X.here hx rfl (pc0 := pc) rfl hd rfl ho hp q) k
theorem own_ifnullF {o : Int} {b : Addr} (X : Stand p l e R s m args below meth c T locs cells slots) (hx : p.tables.exec = Jvm.exec) (hd : decode c.code pc = .ok (.ifnull o, 3)) (hp : pc + 3 = pc') (k : own_G p e below s Q ce sl (T.setTop (mkF m pc' Ls st))) : own_G p e below s Q ce sl (T.setTop (mkF m pc Ls (.ref b :: st))) := by
  subst hp; exact own_fw (fun t q => XS.ifnullNo X.here hx rfl hd rfl q) k
theorem own_acmpT {o : Int} {cd : ACond} {x y : Value} (X : Stand p l e R s m args below meth c T locs cells slots) (hx : p.tables.exec = Jvm.exec) (hd : decode c.code pc = .ok (.if_acmp cd o, 3)) (h1 : x.isRef = true) (h2 : y.isRef = true) (hc : XT.acmp cd x y = true) (ho : 0 ≤ (pc : Int) + o) (hp : ((pc : Int) + o).toNat = pc') (k : own_G p e below s Q ce sl (T.setTop (mkF m pc' Ls st))) : own_G p e below s Q ce sl (T.setTop (mkF m pc Ls (y :: x :: st))) := own_fw (fun t q => XT.acmpYes X.here hx rfl (pc0 := pc) rfl hd rfl h1 h2 hc ho hp q) k
theorem own_acmpF {o : Int} {cd : ACond} {x y : Value} (X : Stand p l e R s m args below meth c T locs cells slots) (hx : p.tables.exec = Jvm.exec) (hd : decode c.code pc = .ok (.if_acmp cd o, 3)) (h1 : x.isRef = true) (h2 : y.isRef = true) (hc : XT.acmp cd x y = false) (hp : pc + 3 = pc') (k : own_G p e below s Q ce sl (T.setTop (mkF m pc' Ls st))) : own_G p e below s Q ce sl (T.setTop (mkF m pc Ls (y :: x :: st))) := by
  subst hp; exact own_fw (fun t q => XT.acmpNo X.here hx rfl hd rfl h1 h2 hc q) k
theorem own_getF (X : Stand p l e R s m args below meth c T locs cells slots) (hx : p.tables.exec = Jvm.exec) (hZ : Z.Warmed39 s.vm) {own O n d : String} {index : Nat} (hown : s.vm.findClass own = some m.cls) (w1 : (Jvm.Cond.fieldLink own index O n d).before a0 Z = true) (eT : T.heap = h) {a : Addr} {v : Value} (F : Fld Z h a O n d v) (hd : decode c.code pc = .ok (.getfield index, 3)) (hp : pc + 3 = pc')
    (k : ∀ T' : State, Stand p l e R s m args below meth c T' locs cells slots → T'.heap = h → own_G p e below s Q ce sl (T'.setTop (mkF m pc' Ls (v :: st)))) : own_G p e below s Q ce sl (T.setTop (mkF m pc Ls (.ref a :: st))) := by
  subst hp
  obtain ⟨T', X', e', st'⟩ := getF X hx hZ hown (host := "") (Or.inl w1) Via.refl eT F (g := mkF m pc Ls (.ref a :: st)) rfl rfl hd
  exact own_fw st' (k T' X' e')
theorem own_putF (X : Stand p l e R s m args below meth c T locs cells slots) (hx : p.tables.exec = Jvm.exec) (hZ : Z.Warmed39 s.vm) {own O n d C : String} {index kk : Nat} {ty : FieldType} (hown : s.vm.findClass own = some m.cls) (w1 : (Jvm.Cond.fieldLink own index O n d).before a0 Z = true) (eT : T.heap = h) {a : Addr} {v old : Value} (F : Fld Z h a O n d old) (E : Exa Z h a C) (L : (Jvm.Cond.lays C O n d).before a0 Z = true ∨ ((Jvm.Cond.laysFinal C O n d).before a0 Z = true ∧ own = O ∧ meth.name = "<init>")) (wi : (Jvm.Cond.instantiable C kk).before a0 Z = true) (hty : parseFieldDescriptor d = some ty) (hn : narrow ty v = v) (hf : fits ty v = true) (hd : decode c.code pc = .ok (.putfield index, 3)) (hp : pc + 3 = pc')
    (k : ∀ (T' : State) (h' : Heap), Stand p l e R s m args below meth c T' (locs ++ [⟨a, RoadKit.slotOf Z O n d⟩]) cells slots → T'.heap = h' → Wr h h' a (RoadKit.slotOf Z O n d) v → own_G p e below s Q ce sl (T'.setTop (mkF m pc' Ls st))) : own_G p e below s Q ce sl (T.setTop (mkF m pc Ls (v :: .ref a :: st))) := by
  subst hp
  obtain ⟨T', h', X', e', W', st'⟩ := putF X hx hZ hown (host := "") (Or.inl w1) Via.refl eT F E L wi hty hn hf (g := mkF m pc Ls (v :: .ref a :: st)) rfl rfl hd
  exact own_fw st' (k T' h' X' e' W')
theorem own_new (X : Stand p l e R s m args below meth c T locs cells slots) (hx : p.tables.exec = Jvm.exec) (hZ : Z.Warmed39 s.vm) {own C : String} {index n : Nat} (hown : s.vm.findClass own = some m.cls) (w1 : (Jvm.Cond.classLink own index C).before a0 Z = true) (wi : (Jvm.Cond.instantiable C n).before a0 Z = true) (wz : (Jvm.Cond.initialized C).before a0 Z = true) (eT : T.heap = h) (hd : decode c.code pc = .ok (.new index, 3)) (hp : pc + 3 = pc') (hc : cells + 1 ≤ R.cells) (hl : slots + n ≤ R.slots)
    (k : ∀ (T' : State) (h' : Heap) (a : Addr), a = h.size → Stand p l e R s m args below meth c T' locs (cells + 1) (slots + n) → T'.heap = h' → Ext h h' → Exa Z h' a C → (∀ {O nm d : String} {ty : FieldType}, Laid Z a0 C O nm d → parseFieldDescriptor d = some ty → Fld Z h' a O nm d (defaultValue ty)) → own_G p e below s Q ce sl (T'.setTop (mkF m pc' Ls (.ref a :: st)))) : own_G p e below s Q ce sl (T.setTop (mkF m pc Ls st)) := by
  subst hp
  obtain ⟨T', h', X', e', E', A', D', -, st'⟩ := newO X hx hZ hown w1 wi wz eT (g := mkF m pc Ls st) rfl hd hc hl
  exact own_fw st' (k T' h' h.size rfl X' e' E' A' D')
theorem own_initO (X : Stand p l e R s m args below meth c T locs cells slots) (hx : p.tables.exec = Jvm.exec) (hZ : Z.Warmed39 s.vm) {own : String} {idx : Nat} (hown : s.vm.findClass own = some m.cls) (w1 : (Jvm.Cond.methodLink own idx Lib.objectInit).before a0 Z = true) (w2 : (Jvm.Cond.instanceMethod Lib.objectInit).before a0 Z = true) (w3 : (Jvm.Cond.code Lib.objectInit object_method_1_code 1 none).before a0 Z = true) (eT : T.heap = h) (hsize : Ls.size = c.maxLocals) {a : Addr} (hd : decode c.code pc = .ok (.invokespecial idx, 3)) (hf : 1 ≤ R.frames) {W : Nat} (hW : (st.map fun v => v.category).sum ≤ W) (hl : W + 12 ≤ R.locals) (hp : pc + 3 = pc')
    (k : ∀ T' : State, Stand p l e R s m args below meth c T' locs cells slots → T'.heap = h → own_G p e below s Q ce sl (T'.setTop (mkF m pc' Ls st))) : own_G p e below s Q ce sl (T.setTop (mkF m pc Ls (.ref a :: st))) := by
  subst hp
  obtain ⟨T', X', e', st'⟩ := initO X hx hZ hown w1 w2 w3 eT (g := mkF m pc Ls (.ref a :: st)) rfl hsize rfl hd hf (W := W) (by show 2 * 0 + _ ≤ _; omega) hl
  exact own_fw st' (k T' X' e')
theorem own_callS (X : Stand p l e R s m args below meth c T locs cells slots) (hx : p.tables.exec = Jvm.exec) (hZ : Z.Warmed39 s.vm) {own : String} {index : Nat} {y : MethodName} {bytes : ByteArray} {maxL : Nat} {ret : Option FieldType} (hown : s.vm.findClass own = some m.cls) (w1 : (Jvm.Cond.methodLink own index y).before a0 Z = true) (w2 : (Jvm.Cond.static y).before a0 Z = true) (w3 : (Jvm.Cond.initialized y.cls).before a0 Z = true) (w4 : (Jvm.Cond.code y bytes maxL ret).before a0 Z = true) (hy : y.cls ≠ "java/lang/invoke/MethodHandle" ∧ y.cls ≠ "java/lang/invoke/VarHandle") {rm : Room} {as' : List Value} {Q' : Option Value → Heap → List Loc → Prop} (hM : own_M l Z y bytes maxL ret [] rm as'.toArray h Q' rm.cells rm.slots) (eT : T.heap = h) {W : Nat} (hf : rm.frames + 1 ≤ R.frames) (hl : W + (maxL + 11) + rm.locals ≤ R.locals) {ps : List FieldType} {r : Option FieldType} (pd : parseMethodDescriptor y.desc = some ⟨ps, r⟩) (hlen : as'.length = ps.length) {stk rest : List Value} (hstk : stk = as'.reverse ++ rest) (hd : decode c.code pc = .ok (.invokestatic index, 3)) (hW : (rest.map fun v => v.category).sum ≤ W) (hsize : Ls.size = c.maxLocals) (hc : cells + rm.cells ≤ R.cells) (hs : slots + rm.slots ≤ R.slots) (hp : pc + 3 = pc')
    (k : ∀ (v : Option Value) (T' : State) (L : List Loc), Stand p l e R s m args below meth c T' (locs ++ L) (cells + rm.cells) (slots + rm.slots) → Q' v T'.heap L → own_G p e below s Q ce sl (T'.setTop (mkF m pc' Ls (v.toList ++ rest)))) : own_G p e below s Q ce sl (T.setTop (mkF m pc Ls stk)) := by
  subst hp hstk
  obtain ⟨v, vm1, ⟨T', L', k', n'⟩, hWm, X', ⟨Lc, hQ', l', y', z'⟩, st'⟩ := Jvm.LawKit.callS X hx (y := y) hown (mvT hZ w1) (mvT hZ w2) (mvT hZ w3) (mvT hZ w4) hy (backOf (W := W) hM hZ w4 w3 hf hl) (g := mkF m pc Ls (as'.reverse ++ rest)) rfl hsize (argsL := as') (rest := rest) (lenOf pd hlen) rfl (by show 2 * 0 + _ ≤ _; omega) hd (fun _ _ => ⟨rfl, eT, hc, hs⟩)
  dsimp only [Pt.U, Pt.locs, Pt.cells, Pt.slots] at X' l' y' z' hQ'
  subst l' y' z'
  exact own_fw st' (k v T' Lc X' hQ')
theorem own_callC (X : Stand p l e R s m args below meth c T locs cells slots) (hx : p.tables.exec = Jvm.exec) (hZ : Z.Warmed39 s.vm) {own : String} {index : Nat} {y : MethodName} {bytes : ByteArray} {maxL : Nat} (hy1 : y.name = "<init>") (hown : s.vm.findClass own = some m.cls) (w1 : (Jvm.Cond.methodLink own index y).before a0 Z = true) (w2 : (Jvm.Cond.instanceMethod y).before a0 Z = true) (w3 : (Jvm.Cond.initialized y.cls).before a0 Z = true) (w4 : (Jvm.Cond.code y bytes maxL none).before a0 Z = true) (hy : y.cls ≠ "java/lang/invoke/MethodHandle" ∧ y.cls ≠ "java/lang/invoke/VarHandle") {a : Addr} {rm : Room} {as' : List Value} {Q' : Option Value → Heap → List Loc → Prop} (hM : own_M l Z y bytes maxL none [] rm (.ref a :: as').toArray h Q' rm.cells rm.slots) (eT : T.heap = h) {W : Nat} (hf : rm.frames + 1 ≤ R.frames) (hl : W + (maxL + 11) + rm.locals ≤ R.locals) {ps : List FieldType} {r : Option FieldType} (pd : parseMethodDescriptor y.desc = some ⟨ps, r⟩) (hlen : as'.length = ps.length) {stk rest : List Value} (hstk : stk = as'.reverse ++ .ref a :: rest) (hd : decode c.code pc = .ok (.invokespecial index, 3)) (hW : (rest.map fun v => v.category).sum ≤ W) (hsize : Ls.size = c.maxLocals) (hc : cells + rm.cells ≤ R.cells) (hs : slots + rm.slots ≤ R.slots) (hp : pc + 3 = pc')
    (k : ∀ (v : Option Value) (T' : State) (L : List Loc), Stand p l e R s m args below meth c T' (locs ++ L) (cells + rm.cells) (slots + rm.slots) → Q' v T'.heap L → own_G p e below s Q ce sl (T'.setTop (mkF m pc' Ls (v.toList ++ rest)))) : own_G p e below s Q ce sl (T.setTop (mkF m pc Ls stk)) := by
  subst hp hstk
  obtain ⟨v, vm1, ⟨T', L', k', n'⟩, hWm, X', ⟨Lc, hQ', l', y', z'⟩, st'⟩ := X.specialBack hx (y := y) hy1 hown (mvT hZ w1) (mvT hZ w2) (mvT hZ w4) hy (backOf (W := W) hM hZ w4 w3 hf hl) (g := mkF m pc Ls (as'.reverse ++ .ref a :: rest)) rfl hsize (Steps.refl _) (a := a) (argsL := as') (rest := rest) (lenOf pd hlen) rfl (by show 2 * 0 + _ ≤ _; omega) hd (fun _ _ => ⟨rfl, eT, hc, hs⟩)
  dsimp only [Pt.U, Pt.locs, Pt.cells, Pt.slots] at X' l' y' z' hQ'
  subst l' y' z'
  exact own_fw (fun t q => st'.trans q) (k v T' Lc X' hQ')
theorem own_callV (X : Stand p l e R s m args below meth c T locs cells slots) (hx : p.tables.exec = Jvm.exec) (hZ : Z.Warmed39 s.vm) {own C : String} {index : Nat} {y : MethodName} {bytes : ByteArray} {maxL : Nat} {ret : Option FieldType} (hown : s.vm.findClass own = some m.cls) (w1 : (Jvm.Cond.methodLink own index y).before a0 Z = true) (w2 : (Jvm.Cond.declares y).before a0 Z = true) (w3 : (Jvm.Cond.selects C y y).before a0 Z = true) (w4 : (Jvm.Cond.instanceMethod y).before a0 Z = true) (w5 : (Jvm.Cond.initialized y.cls).before a0 Z = true) (w6 : (Jvm.Cond.code y bytes maxL ret).before a0 Z = true) (hy : y.cls ≠ "java/lang/invoke/MethodHandle" ∧ y.cls ≠ "java/lang/invoke/VarHandle") {a : Addr} (E : Exa Z h a C) {rm : Room} {as' : List Value} {Q' : Option Value → Heap → List Loc → Prop} (hM : own_M l Z y bytes maxL ret [] rm (.ref a :: as').toArray h Q' rm.cells rm.slots) (eT : T.heap = h) {W : Nat} (hf : rm.frames + 1 ≤ R.frames) (hl : W + (maxL + 11) + rm.locals ≤ R.locals) {ps : List FieldType} {r : Option FieldType} (pd : parseMethodDescriptor y.desc = some ⟨ps, r⟩) (hlen : as'.length = ps.length) {stk rest : List Value} (hstk : stk = as'.reverse ++ .ref a :: rest) (hd : decode c.code pc = .ok (.invokevirtual index, 3)) (hW : (rest.map fun v => v.category).sum ≤ W) (hsize : Ls.size = c.maxLocals) (hc : cells + rm.cells ≤ R.cells) (hs : slots + rm.slots ≤ R.slots) (hp : pc + 3 = pc')
    (k : ∀ (v : Option Value) (T' : State) (L : List Loc), Stand p l e R s m args below meth c T' (locs ++ L) (cells + rm.cells) (slots + rm.slots) → Q' v T'.heap L → own_G p e below s Q ce sl (T'.setTop (mkF m pc' Ls (v.toList ++ rest)))) : own_G p e below s Q ce sl (T.setTop (mkF m pc Ls stk)) := by
  subst hp hstk
  obtain ⟨cq, kq, qa, qb, qc⟩ := isOf hZ eT E
  obtain ⟨v, vm1, ⟨T', L', k', n'⟩, hWm, X', ⟨Lc, hQ', l', y', z'⟩, st'⟩ := X.virtualBack hx (y := y) (z := y) hown (mvT hZ w1) (mvT hZ w2) (notFace_of_selects (args := #[]) (mvT hZ w3)) (mvT hZ w3) (mvT hZ w4) hy (backOf (W := W) hM hZ w6 w5 hf hl) qa qc (g := mkF m pc Ls (as'.reverse ++ .ref a :: rest)) rfl hsize (Steps.refl _) (argsL := as') (rest := rest) (lenOf pd hlen) rfl (by show 2 * 0 + _ ≤ _; omega) hd (fun _ _ => ⟨rfl, eT, hc, hs⟩)
  dsimp only [Pt.U, Pt.locs, Pt.cells, Pt.slots] at X' l' y' z' hQ'
  subst l' y' z'
  exact own_fw (fun t q => st'.trans q) (k v T' Lc X' hQ')
end OwnHead
section OwnArr
variable {p : Program} {l : Launch} {e : Env} {R : Room} {s : State} {m : MethodId} {args : Array Value} {below : List Frame} {meth : Method} {c : Code} {T : State} {locs : List Loc} {cells slots : Nat} {Z : State} {a0 : Array Value} {h : Heap} {Q : Option Value → Heap → List Loc → Prop} {ce sl : Nat} {pc pc' : Nat} {Ls : Array Slot} {st : List Value} {h' : Heap} {a b : Addr} {ty : FieldType} {z : Int32} {ws : List Addr} {v : Value} {sx : Nat}
def own_AI (Z : State) (h : Heap) (a : Addr) (ty : FieldType) (z : Int32) (g : Nat → Int32) : Prop := ∃ c : Cell, Arr Z h a c ty ∧ c.slots.size = z.toNatClampNeg ∧ ¬ z < 0 ∧ ∀ i, i < c.slots.size → c.slots[i]? = some (.int (g i))
theorem own_AI.lt {g : Nat → Int32} (F : own_AI Z h a ty z g) : a < h.size := by obtain ⟨c, A, -⟩ := F; exact A.lt
theorem own_AI.ext {g : Nat → Int32} (F : own_AI Z h a ty z g) (E : Ext h h') : own_AI Z h' a ty z g := by obtain ⟨c, A, r⟩ := F; exact ⟨c, A.ext E, r⟩
theorem own_AI.other {g : Nat → Int32} (F : own_AI Z h a ty z g) (W : Wr h h' b sx v) (q : a ≠ b) : own_AI Z h' a ty z g := by obtain ⟨c, A, r⟩ := F; exact ⟨c, A.other W q, r⟩
theorem own_AI.keep {g : Nat → Int32} (F : own_AI Z h a ty z g) (Kp : Keep h h' ws) (q : a ∉ ws) : own_AI Z h' a ty z g := by obtain ⟨c, A, r⟩ := F; exact ⟨c, ⟨Kp.2.1 a c A.1 q, A.2⟩, r⟩
theorem own_AI.same {g g' : Nat → Int32} (F : own_AI Z h a ty z g) (q : ∀ i, i < z.toNatClampNeg → g' i = g i) : own_AI Z h a ty z g' := by obtain ⟨c, A, r1, r2, r3⟩ := F; exact ⟨c, A, r1, r2, fun i hi => by rw [q i (r1 ▸ hi)]; exact r3 i hi⟩
theorem own_AI.set {g g' : Nat → Int32} (F : own_AI Z h a ty z g) {j : Int32} {x : Int32} (W : Wr h h' a j.toNatClampNeg (.int x)) (q : ∀ i, i < z.toNatClampNeg → g' i = if i = j.toNatClampNeg then x else g i) : own_AI Z h' a ty z g' := by
  obtain ⟨c, A, r1, r2, r3⟩ := F
  refine ⟨_, A.same W, (sz_set _ _ _).trans r1, r2, fun i hi => ?_⟩
  rw [sz_set] at hi
  rw [q i (r1 ▸ hi)]
  by_cases e : i = j.toNatClampNeg
  · subst e; rw [if_pos rfl]; simp [Cell.setSlot, hi]
  · rw [if_neg e]; exact (Array.getElem?_setIfInBounds_ne (Ne.symm e)).trans (r3 i hi)
def own_LI (l : List Int32) (i : Nat) : Int32 := l.getD i 0
theorem own_LI_set (l : List Int32) (k : Nat) (x : Int32) (hk : k < l.length) (i : Nat) : own_LI (l.set k x) i = if i = k then x else own_LI l i := by
  unfold own_LI
  by_cases e : i = k
  · subst e; simp [List.getD, hk]
  · rw [if_neg e]; simp [List.getD, List.getElem?_set_ne (Ne.symm e)]
theorem own_newAI (X : Stand p l e R s m args below meth c T locs cells slots) (hx : p.tables.exec = Jvm.exec) (hZ : Z.Warmed39 s.vm) {aty : ArrayType} {ty : FieldType} (hty : newarray.typeOf aty = ty) (w1 : (Jvm.Cond.arrayClass ty).before a0 Z = true) (eT : T.heap = h) {n : Int32} (hd : decode c.code pc = .ok (.newarray aty, 2)) (hp : pc + 2 = pc') (hn : ¬ n < 0) {cap : Nat} (hcap : n.toNatClampNeg ≤ cap) (hb : cap * 8 ≤ 536870912) (hc : cells + 1 ≤ R.cells) (hl : slots + cap ≤ R.slots) (hdv : defaultValue ty = .int 0)
    (k : ∀ (T' : State) (h' : Heap) (a : Addr), a = h.size → Stand p l e R s m args below meth c T' locs (cells + 1) (slots + cap) → T'.heap = h' → Ext h h' → own_AI Z h' a ty n (fun _ => 0) → own_G p e below s Q ce sl (T'.setTop (mkF m pc' Ls (.ref a :: st)))) : own_G p e below s Q ce sl (T.setTop (mkF m pc Ls (.int n :: st))) := by
  subst hp hty
  obtain ⟨T', h', cA, X', e', E', A', st'⟩ := newP X hx hZ w1 eT (g := mkF m pc Ls (.int n :: st)) rfl hd rfl hn hcap hb hc hl
  refine own_fw st' (k T' h' h.size rfl X' e' E' ⟨_, A', sz_new _ _ _, hn, fun i hi => ?_⟩)
  rw [sz_new] at hi
  rw [← hdv]
  simp [newA, hi]
theorem own_lenI (X : Stand p l e R s m args below meth c T locs cells slots) (hx : p.tables.exec = Jvm.exec) (hZ : Z.Warmed39 s.vm) (eT : T.heap = h) {ty : FieldType} {g : Nat → Int32} (A : own_AI Z h a ty z g) (hd : decode c.code pc = .ok (.arraylength, 1)) (hp : pc + 1 = pc') (k : own_G p e below s Q ce sl (T.setTop (mkF m pc' Ls (.int z :: st)))) : own_G p e below s Q ce sl (T.setTop (mkF m pc Ls (.ref a :: st))) := by
  subst hp
  obtain ⟨cl, A1, r1, r2, r3⟩ := A
  rw [← len_of r1 r2] at k
  exact own_fw (fun t q => X.arraylength hx (by rw [eT]; exact A1.1) (State.isArrayOf_alike hZ.alike A1.2.1) (g := mkF m pc Ls (.ref a :: st)) rfl rfl hd _ q) k
def own_AJ (Z : State) (h : Heap) (a : Addr) (ty : FieldType) (z : Int32) (g : Nat → Int64) : Prop := ∃ c : Cell, Arr Z h a c ty ∧ c.slots.size = z.toNatClampNeg ∧ ¬ z < 0 ∧ ∀ i, i < c.slots.size → c.slots[i]? = some (.long (g i))
theorem own_AJ.lt {g : Nat → Int64} (F : own_AJ Z h a ty z g) : a < h.size := by obtain ⟨c, A, -⟩ := F; exact A.lt
theorem own_AJ.ext {g : Nat → Int64} (F : own_AJ Z h a ty z g) (E : Ext h h') : own_AJ Z h' a ty z g := by obtain ⟨c, A, r⟩ := F; exact ⟨c, A.ext E, r⟩
theorem own_AJ.other {g : Nat → Int64} (F : own_AJ Z h a ty z g) (W : Wr h h' b sx v) (q : a ≠ b) : own_AJ Z h' a ty z g := by obtain ⟨c, A, r⟩ := F; exact ⟨c, A.other W q, r⟩
theorem own_AJ.keep {g : Nat → Int64} (F : own_AJ Z h a ty z g) (Kp : Keep h h' ws) (q : a ∉ ws) : own_AJ Z h' a ty z g := by obtain ⟨c, A, r⟩ := F; exact ⟨c, ⟨Kp.2.1 a c A.1 q, A.2⟩, r⟩
theorem own_AJ.same {g g' : Nat → Int64} (F : own_AJ Z h a ty z g) (q : ∀ i, i < z.toNatClampNeg → g' i = g i) : own_AJ Z h a ty z g' := by obtain ⟨c, A, r1, r2, r3⟩ := F; exact ⟨c, A, r1, r2, fun i hi => by rw [q i (r1 ▸ hi)]; exact r3 i hi⟩
theorem own_AJ.set {g g' : Nat → Int64} (F : own_AJ Z h a ty z g) {j : Int32} {x : Int64} (W : Wr h h' a j.toNatClampNeg (.long x)) (q : ∀ i, i < z.toNatClampNeg → g' i = if i = j.toNatClampNeg then x else g i) : own_AJ Z h' a ty z g' := by
  obtain ⟨c, A, r1, r2, r3⟩ := F
  refine ⟨_, A.same W, (sz_set _ _ _).trans r1, r2, fun i hi => ?_⟩
  rw [sz_set] at hi
  rw [q i (r1 ▸ hi)]
  by_cases e : i = j.toNatClampNeg
  · subst e; rw [if_pos rfl]; simp [Cell.setSlot, hi]
  · rw [if_neg e]; exact (Array.getElem?_setIfInBounds_ne (Ne.symm e)).trans (r3 i hi)
def own_LJ (l : List Int64) (i : Nat) : Int64 := l.getD i 0
theorem own_LJ_set (l : List Int64) (k : Nat) (x : Int64) (hk : k < l.length) (i : Nat) : own_LJ (l.set k x) i = if i = k then x else own_LJ l i := by
  unfold own_LJ
  by_cases e : i = k
  · subst e; simp [List.getD, hk]
  · rw [if_neg e]; simp [List.getD, List.getElem?_set_ne (Ne.symm e)]
theorem own_newAJ (X : Stand p l e R s m args below meth c T locs cells slots) (hx : p.tables.exec = Jvm.exec) (hZ : Z.Warmed39 s.vm) {aty : ArrayType} {ty : FieldType} (hty : newarray.typeOf aty = ty) (w1 : (Jvm.Cond.arrayClass ty).before a0 Z = true) (eT : T.heap = h) {n : Int32} (hd : decode c.code pc = .ok (.newarray aty, 2)) (hp : pc + 2 = pc') (hn : ¬ n < 0) {cap : Nat} (hcap : n.toNatClampNeg ≤ cap) (hb : cap * 8 ≤ 536870912) (hc : cells + 1 ≤ R.cells) (hl : slots + cap ≤ R.slots) (hdv : defaultValue ty = .long 0)
    (k : ∀ (T' : State) (h' : Heap) (a : Addr), a = h.size → Stand p l e R s m args below meth c T' locs (cells + 1) (slots + cap) → T'.heap = h' → Ext h h' → own_AJ Z h' a ty n (fun _ => 0) → own_G p e below s Q ce sl (T'.setTop (mkF m pc' Ls (.ref a :: st)))) : own_G p e below s Q ce sl (T.setTop (mkF m pc Ls (.int n :: st))) := by
  subst hp hty
  obtain ⟨T', h', cA, X', e', E', A', st'⟩ := newP X hx hZ w1 eT (g := mkF m pc Ls (.int n :: st)) rfl hd rfl hn hcap hb hc hl
  refine own_fw st' (k T' h' h.size rfl X' e' E' ⟨_, A', sz_new _ _ _, hn, fun i hi => ?_⟩)
  rw [sz_new] at hi
  rw [← hdv]
  simp [newA, hi]
theorem own_lenJ (X : Stand p l e R s m args below meth c T locs cells slots) (hx : p.tables.exec = Jvm.exec) (hZ : Z.Warmed39 s.vm) (eT : T.heap = h) {ty : FieldType} {g : Nat → Int64} (A : own_AJ Z h a ty z g) (hd : decode c.code pc = .ok (.arraylength, 1)) (hp : pc + 1 = pc') (k : own_G p e below s Q ce sl (T.setTop (mkF m pc' Ls (.int z :: st)))) : own_G p e below s Q ce sl (T.setTop (mkF m pc Ls (.ref a :: st))) := by
  subst hp
  obtain ⟨cl, A1, r1, r2, r3⟩ := A
  rw [← len_of r1 r2] at k
  exact own_fw (fun t q => X.arraylength hx (by rw [eT]; exact A1.1) (State.isArrayOf_alike hZ.alike A1.2.1) (g := mkF m pc Ls (.ref a :: st)) rfl rfl hd _ q) k
theorem own_baload (X : Stand p l e R s m args below meth c T locs cells slots) (hx : p.tables.exec = Jvm.exec) (hZ : Z.Warmed39 s.vm) (eT : T.heap = h) {g : Nat → Int32} (A : own_AI Z h a .byte z g) {j : Int32} {x : Int32} (hj : ¬ j < 0 ∧ j < z) (hv : g j.toNatClampNeg = x) (hd : decode c.code pc = .ok (.baload, 1)) (hp : pc + 1 = pc') (k : own_G p e below s Q ce sl (T.setTop (mkF m pc' Ls (.int x :: st)))) : own_G p e below s Q ce sl (T.setTop (mkF m pc Ls (.int j :: .ref a :: st))) := by
  subst hp hv
  obtain ⟨cl, A1, r1, r2, r3⟩ := A
  have hin := inb_of r1 hj
  exact own_fw (fun t q => X.baloadBytes hx (j := j) (by rw [eT]; exact A1.1) (State.isArrayOf_alike hZ.alike A1.2.1) A1.2.2 hin (r3 _ (Nat.lt_of_not_le fun q => hin (Or.inr q))) (g := mkF m pc Ls (.int j :: .ref a :: st)) rfl rfl hd _ q) k
theorem own_iaload (X : Stand p l e R s m args below meth c T locs cells slots) (hx : p.tables.exec = Jvm.exec) (hZ : Z.Warmed39 s.vm) (eT : T.heap = h) {g : Nat → Int32} (A : own_AI Z h a .int z g) {j : Int32} {x : Int32} (hj : ¬ j < 0 ∧ j < z) (hv : g j.toNatClampNeg = x) (hd : decode c.code pc = .ok (.iaload, 1)) (hp : pc + 1 = pc') (k : own_G p e below s Q ce sl (T.setTop (mkF m pc' Ls (.int x :: st)))) : own_G p e below s Q ce sl (T.setTop (mkF m pc Ls (.int j :: .ref a :: st))) := by
  subst hp hv
  obtain ⟨cl, A1, r1, r2, r3⟩ := A
  have hin := inb_of r1 hj
  exact own_fw (fun t q => X.iaload hx (j := j) (by rw [eT]; exact A1.1) (State.isArrayOf_alike hZ.alike A1.2.1) A1.2.2 hin (r3 _ (Nat.lt_of_not_le fun q => hin (Or.inr q))) (g := mkF m pc Ls (.int j :: .ref a :: st)) rfl rfl hd _ q) k
theorem own_laload (X : Stand p l e R s m args below meth c T locs cells slots) (hx : p.tables.exec = Jvm.exec) (hZ : Z.Warmed39 s.vm) (eT : T.heap = h) {g : Nat → Int64} (A : own_AJ Z h a .long z g) {j : Int32} {x : Int64} (hj : ¬ j < 0 ∧ j < z) (hv : g j.toNatClampNeg = x) (hd : decode c.code pc = .ok (.laload, 1)) (hp : pc + 1 = pc') (k : own_G p e below s Q ce sl (T.setTop (mkF m pc' Ls (.long x :: st)))) : own_G p e below s Q ce sl (T.setTop (mkF m pc Ls (.int j :: .ref a :: st))) := by
  subst hp hv
  obtain ⟨cl, A1, r1, r2, r3⟩ := A
  have hin := inb_of r1 hj
  exact own_fw (fun t q => X.laload hx (j := j) (by rw [eT]; exact A1.1) (State.isArrayOf_alike hZ.alike A1.2.1) A1.2.2 hin (r3 _ (Nat.lt_of_not_le fun q => hin (Or.inr q))) (g := mkF m pc Ls (.int j :: .ref a :: st)) rfl rfl hd _ q) k
theorem own_bastore (X : Stand p l e R s m args below meth c T locs cells slots) (hx : p.tables.exec = Jvm.exec) (hZ : Z.Warmed39 s.vm) (eT : T.heap = h) {g g' : Nat → Int32} (A : own_AI Z h a .byte z g) {j : Int32} {x x' : Int32} (hj : ¬ j < 0 ∧ j < z) (hx' : (nar .byte x) = x') (hg : ∀ i, i < z.toNatClampNeg → g' i = if i = j.toNatClampNeg then x' else g i) (hd : decode c.code pc = .ok (.bastore, 1)) (hp : pc + 1 = pc') (k : ∀ (T' : State) (h' : Heap), Stand p l e R s m args below meth c T' (locs ++ [⟨a, j.toNatClampNeg⟩]) cells slots → T'.heap = h' → Wr h h' a j.toNatClampNeg (.int x') → own_AI Z h' a .byte z g' → own_G p e below s Q ce sl (T'.setTop (mkF m pc' Ls st))) : own_G p e below s Q ce sl (T.setTop (mkF m pc Ls (.int x :: .int j :: .ref a :: st))) := by
  subst hp hx'
  have A0 := A
  obtain ⟨cl, A1, r1, r2, r3⟩ := A
  obtain ⟨T', h', X', e', W', st'⟩ := stB X hx hZ eT A1 (inb_of r1 hj) (g := mkF m pc Ls (.int x :: .int j :: .ref a :: st)) rfl rfl hd
  exact own_fw st' (k T' h' X' e' W' (A0.set W' hg))
theorem own_iastore (X : Stand p l e R s m args below meth c T locs cells slots) (hx : p.tables.exec = Jvm.exec) (hZ : Z.Warmed39 s.vm) (eT : T.heap = h) {g g' : Nat → Int32} (A : own_AI Z h a .int z g) {j : Int32} {x x' : Int32} (hj : ¬ j < 0 ∧ j < z) (hx' : x = x') (hg : ∀ i, i < z.toNatClampNeg → g' i = if i = j.toNatClampNeg then x' else g i) (hd : decode c.code pc = .ok (.iastore, 1)) (hp : pc + 1 = pc') (k : ∀ (T' : State) (h' : Heap), Stand p l e R s m args below meth c T' (locs ++ [⟨a, j.toNatClampNeg⟩]) cells slots → T'.heap = h' → Wr h h' a j.toNatClampNeg (.int x') → own_AI Z h' a .int z g' → own_G p e below s Q ce sl (T'.setTop (mkF m pc' Ls st))) : own_G p e below s Q ce sl (T.setTop (mkF m pc Ls (.int x :: .int j :: .ref a :: st))) := by
  subst hp hx'
  have A0 := A
  obtain ⟨cl, A1, r1, r2, r3⟩ := A
  obtain ⟨T', h', X', e', W', st'⟩ := stI X hx hZ eT A1 (inb_of r1 hj) (g := mkF m pc Ls (.int x :: .int j :: .ref a :: st)) rfl rfl hd
  exact own_fw st' (k T' h' X' e' W' (A0.set W' hg))
theorem own_lastore (X : Stand p l e R s m args below meth c T locs cells slots) (hx : p.tables.exec = Jvm.exec) (hZ : Z.Warmed39 s.vm) (eT : T.heap = h) {g g' : Nat → Int64} (A : own_AJ Z h a .long z g) {j : Int32} {x x' : Int64} (hj : ¬ j < 0 ∧ j < z) (hx' : x = x') (hg : ∀ i, i < z.toNatClampNeg → g' i = if i = j.toNatClampNeg then x' else g i) (hd : decode c.code pc = .ok (.lastore, 1)) (hp : pc + 1 = pc') (k : ∀ (T' : State) (h' : Heap), Stand p l e R s m args below meth c T' (locs ++ [⟨a, j.toNatClampNeg⟩]) cells slots → T'.heap = h' → Wr h h' a j.toNatClampNeg (.long x') → own_AJ Z h' a .long z g' → own_G p e below s Q ce sl (T'.setTop (mkF m pc' Ls st))) : own_G p e below s Q ce sl (T.setTop (mkF m pc Ls (.long x :: .int j :: .ref a :: st))) := by
  subst hp hx'
  have A0 := A
  obtain ⟨cl, A1, r1, r2, r3⟩ := A
  obtain ⟨T', h', X', e', W', st'⟩ := stJ X hx hZ eT A1 (inb_of r1 hj) (g := mkF m pc Ls (.long x :: .int j :: .ref a :: st)) rfl rfl hd
  exact own_fw st' (k T' h' X' e' W' (A0.set W' hg))
theorem own_nar (y : Int32) : nar .byte y.toInt8.toInt32 = y.toInt8.toInt32 := by
  show y.toInt8.toInt32.toInt8.toInt32 = _
  rw [Int8.toInt8_toInt32]
end OwnArr
def own_rot (x : Int64) (k : Int32) : Int64 := (x <<< (k &&& 0x3f).toInt64) ||| (x.toUInt64 >>> (((64 : Int32) - k) &&& 0x3f).toInt64.toUInt64).toInt64
abbrev own_S : Type := Int64 × Int64 × Int64 × Int64
def own_round (t : own_S) : own_S :=
  ((own_rot (t.1 + t.2.1) (32 : Int32)) + ((own_rot t.2.2.2 (16 : Int32)) ^^^ (t.2.2.1 + t.2.2.2)),
   (own_rot ((own_rot t.2.1 (13 : Int32)) ^^^ (t.1 + t.2.1)) (17 : Int32)) ^^^ ((t.2.2.1 + t.2.2.2) + ((own_rot t.2.1 (13 : Int32)) ^^^ (t.1 + t.2.1))),
   own_rot ((t.2.2.1 + t.2.2.2) + ((own_rot t.2.1 (13 : Int32)) ^^^ (t.1 + t.2.1))) (32 : Int32),
   (own_rot ((own_rot t.2.2.2 (16 : Int32)) ^^^ (t.2.2.1 + t.2.2.2)) (21 : Int32)) ^^^ ((own_rot (t.1 + t.2.1) (32 : Int32)) + ((own_rot t.2.2.2 (16 : Int32)) ^^^ (t.2.2.1 + t.2.2.2))))
def own_comp (m : Int64) (t : own_S) : own_S := (((own_round (t.1, t.2.1, t.2.2.1, t.2.2.2 ^^^ m)).1 ^^^ m), (own_round (t.1, t.2.1, t.2.2.1, t.2.2.2 ^^^ m)).2.1, (own_round (t.1, t.2.1, t.2.2.1, t.2.2.2 ^^^ m)).2.2.1, (own_round (t.1, t.2.1, t.2.2.1, t.2.2.2 ^^^ m)).2.2.2)
def own_ff (t : own_S) : own_S := (t.1, t.2.1, t.2.2.1 ^^^ (255 : Int64), t.2.2.2)
def own_x4 (t : own_S) : Int64 := ((t.1 ^^^ t.2.1) ^^^ t.2.2.1) ^^^ t.2.2.2
theorem own_comp0 (t : own_S) : own_comp 0 t = own_round t := by
  unfold own_comp
  simp only [Int64.xor_zero]
def own_b (G : Nat → Int32) (j : Int32) : Int64 := (G j.toNatClampNeg &&& (255 : Int32)).toInt64
def own_l0 (G : Nat → Int32) (fr n : Int32) (r : Int64) : Int64 := if (0 : Int32) < n then r ||| own_b G fr else r
def own_lk (G : Nat → Int32) (fr n k s : Int32) (r : Int64) : Int64 := if k < n then r ||| (own_b G (fr + k) <<< (s &&& 0x3f).toInt64) else r
def own_le8 (G : Nat → Int32) (fr n : Int32) : Int64 := own_lk G fr n 7 56 (own_lk G fr n 6 48 (own_lk G fr n 5 40 (own_lk G fr n 4 32 (own_lk G fr n 3 24 (own_lk G fr n 2 16 (own_lk G fr n 1 8 (own_l0 G fr n 0)))))))
theorem own_ib0 {off : Int32} (h : 0 ≤ off.toInt ∧ off.toInt ≤ 16) : ¬ off < 0 ∧ off < (24 : Int32) := by
  simp only [Int32.lt_iff_toInt_lt, Int32.reduceToInt]; omega
theorem own_ibk {off kk : Int32} (h : 0 ≤ off.toInt ∧ off.toInt ≤ 16) (hk : 0 ≤ kk.toInt ∧ kk.toInt ≤ 7) : ¬ (off + kk) < 0 ∧ (off + kk) < (24 : Int32) := by
  have h1 := c_iadd off kk
  have h2 := rng32 (off + kk)
  simp only [Int32.lt_iff_toInt_lt, Int32.reduceToInt]; omega
theorem own_id0 {fr n : Int32} (hF : 0 ≤ fr.toInt) (hS : fr.toInt + n.toInt ≤ 24) (c : (0 : Int32) < n) : ¬ fr < 0 ∧ fr < (24 : Int32) := by
  simp only [Int32.lt_iff_toInt_lt, Int32.reduceToInt] at c ⊢; omega
theorem own_idk {fr n kk : Int32} (hF : 0 ≤ fr.toInt) (hS : fr.toInt + n.toInt ≤ 24) (hk : 0 ≤ kk.toInt ∧ kk.toInt ≤ 7) (c : kk < n) : ¬ (fr + kk) < 0 ∧ (fr + kk) < (24 : Int32) := by
  have h1 := c_iadd fr kk
  have h2 := rng32 (fr + kk)
  simp only [Int32.lt_iff_toInt_lt, Int32.reduceToInt] at c ⊢; omega
theorem d1_0 : decode jdk_29_method_69_code 0 = .ok (.iload_n 0, 1) := by decide +kernel
theorem d1_1 : decode jdk_29_method_69_code 1 = .ok (.iload_n 1, 1) := by decide +kernel
theorem d1_2 : decode jdk_29_method_69_code 2 = .ok (.if_icmp .gt 7, 3) := by decide +kernel
theorem d1_9 : decode jdk_29_method_69_code 9 = .ok (.iload_n 1, 1) := by decide +kernel
theorem d1_5 : decode jdk_29_method_69_code 5 = .ok (.iload_n 0, 1) := by decide +kernel
theorem d1_6 : decode jdk_29_method_69_code 6 = .ok (.goto 4, 3) := by decide +kernel
theorem d1_10 : decode jdk_29_method_69_code 10 = .ok (.ireturn, 1) := by decide +kernel
theorem oef_rm_min (m : MethodId) (u0 : Int32) (u1 : Int32) : entryFrame m #[(.int u0), (.int u1)] 2 = mkF m 0 #[vI u0, vI u1] [] := by first | (simp [entryFrame, mkF, argsToLocals, Value.category]; done) | rfl
set_option maxRecDepth 65536 in
set_option maxHeartbeats 40000000 in
theorem rm_min (l : Launch) (Z : State) (a0 : Array Value) (hw : ∀ d ∈ tables_1, d.before a0 Z = true) (u0 : Int32) (u1 : Int32) (h0 : Heap) (n0 : Nat) (Z0 : n0 ≤ h0.size)  :
    own_M l Z (⟨"java/lang/Math", "min", "(II)I"⟩ : MethodName) jdk_29_method_69_code 2 (some .int) [] ({ frames := 0, cells := 0, slots := 0, locals := 0 } : Room) #[(.int u0), (.int u1)] h0 (fun v h L => v = some (.int (if u1 < u0 then u1 else u0)) ∧ Fr n0 L ∧ (h = h0)) 0 0 := by
  refine own_body (Jvm.Free.JP.mathPlain rfl (by decide +kernel)) ?_
  intro p e s m below meth c s1 hx hby hml hown hnm hret hlk hZ X0 e0
  rw [oef_rm_min m u0 u1]
  have N0 := Fr.nil n0
  refine own_iloadN X0 hx (hb hby d1_0) rfl (pc' := 1) rfl ?_
  refine own_iloadN X0 hx (hb hby d1_1) rfl (pc' := 2) rfl ?_
  refine own_via (S' := s1.setTop (mkF m 10 #[vI u0, vI u1] [(.int (if u1 < u0 then u1 else u0))])) (fun kk => ?_) ?_
  · by_cases c1 : u1 < u0
    · refine own_icmpT X0 hx (hb hby d1_2) (tlt c1).2.2.1 (by decide) (pc' := 9) rfl ?_
      refine own_iloadN X0 hx (hb hby d1_9) rfl (pc' := 10) rfl ?_
      exact own_cast (by simp only [if_pos c1]) kk
    · refine own_icmpF X0 hx (hb hby d1_2) (flt c1).2.2.1 (pc' := 5) rfl ?_
      refine own_iloadN X0 hx (hb hby d1_5) rfl (pc' := 6) rfl ?_
      refine own_goto X0 hx (hb hby d1_6) (by decide) (pc' := 10) rfl ?_
      exact own_cast (by simp only [if_neg c1]) kk
  exact own_retI X0 hx hret hlk (hb hby d1_10) ⟨rfl, N0, e0⟩ (by decide) (by decide)
theorem d2_0 : decode method_3_code 0 = .ok (.aload_n 0, 1) := by decide +kernel
theorem d2_1 : decode method_3_code 1 = .ok (.iload_n 1, 1) := by decide +kernel
theorem d2_2 : decode method_3_code 2 = .ok (.lload_n 2, 1) := by decide +kernel
theorem d2_3 : decode method_3_code 3 = .ok (.l2i, 1) := by decide +kernel
theorem d2_4 : decode method_3_code 4 = .ok (.i2b, 1) := by decide +kernel
theorem d2_5 : decode method_3_code 5 = .ok (.bastore, 1) := by decide +kernel
theorem d2_6 : decode method_3_code 6 = .ok (.aload_n 0, 1) := by decide +kernel
theorem d2_7 : decode method_3_code 7 = .ok (.iload_n 1, 1) := by decide +kernel
theorem d2_8 : decode method_3_code 8 = .ok (.iconst 1, 1) := by decide +kernel
theorem d2_9 : decode method_3_code 9 = .ok (.iadd, 1) := by decide +kernel
theorem d2_10 : decode method_3_code 10 = .ok (.lload_n 2, 1) := by decide +kernel
theorem d2_11 : decode method_3_code 11 = .ok (.bipush 8, 2) := by decide +kernel
theorem d2_13 : decode method_3_code 13 = .ok (.lushr, 1) := by decide +kernel
theorem d2_14 : decode method_3_code 14 = .ok (.l2i, 1) := by decide +kernel
theorem d2_15 : decode method_3_code 15 = .ok (.i2b, 1) := by decide +kernel
theorem d2_16 : decode method_3_code 16 = .ok (.bastore, 1) := by decide +kernel
theorem d2_17 : decode method_3_code 17 = .ok (.aload_n 0, 1) := by decide +kernel
theorem d2_18 : decode method_3_code 18 = .ok (.iload_n 1, 1) := by decide +kernel
theorem d2_19 : decode method_3_code 19 = .ok (.iconst 2, 1) := by decide +kernel
theorem d2_20 : decode method_3_code 20 = .ok (.iadd, 1) := by decide +kernel
theorem d2_21 : decode method_3_code 21 = .ok (.lload_n 2, 1) := by decide +kernel
theorem d2_22 : decode method_3_code 22 = .ok (.bipush 16, 2) := by decide +kernel
theorem d2_24 : decode method_3_code 24 = .ok (.lushr, 1) := by decide +kernel
theorem d2_25 : decode method_3_code 25 = .ok (.l2i, 1) := by decide +kernel
theorem d2_26 : decode method_3_code 26 = .ok (.i2b, 1) := by decide +kernel
theorem d2_27 : decode method_3_code 27 = .ok (.bastore, 1) := by decide +kernel
theorem d2_28 : decode method_3_code 28 = .ok (.aload_n 0, 1) := by decide +kernel
theorem d2_29 : decode method_3_code 29 = .ok (.iload_n 1, 1) := by decide +kernel
theorem d2_30 : decode method_3_code 30 = .ok (.iconst 3, 1) := by decide +kernel
theorem d2_31 : decode method_3_code 31 = .ok (.iadd, 1) := by decide +kernel
theorem d2_32 : decode method_3_code 32 = .ok (.lload_n 2, 1) := by decide +kernel
theorem d2_33 : decode method_3_code 33 = .ok (.bipush 24, 2) := by decide +kernel
theorem d2_35 : decode method_3_code 35 = .ok (.lushr, 1) := by decide +kernel
theorem d2_36 : decode method_3_code 36 = .ok (.l2i, 1) := by decide +kernel
theorem d2_37 : decode method_3_code 37 = .ok (.i2b, 1) := by decide +kernel
theorem d2_38 : decode method_3_code 38 = .ok (.bastore, 1) := by decide +kernel
theorem d2_39 : decode method_3_code 39 = .ok (.aload_n 0, 1) := by decide +kernel
theorem d2_40 : decode method_3_code 40 = .ok (.iload_n 1, 1) := by decide +kernel
theorem d2_41 : decode method_3_code 41 = .ok (.iconst 4, 1) := by decide +kernel
theorem d2_42 : decode method_3_code 42 = .ok (.iadd, 1) := by decide +kernel
theorem d2_43 : decode method_3_code 43 = .ok (.lload_n 2, 1) := by decide +kernel
theorem d2_44 : decode method_3_code 44 = .ok (.bipush 32, 2) := by decide +kernel
theorem d2_46 : decode method_3_code 46 = .ok (.lushr, 1) := by decide +kernel
theorem d2_47 : decode method_3_code 47 = .ok (.l2i, 1) := by decide +kernel
theorem d2_48 : decode method_3_code 48 = .ok (.i2b, 1) := by decide +kernel
theorem d2_49 : decode method_3_code 49 = .ok (.bastore, 1) := by decide +kernel
theorem d2_50 : decode method_3_code 50 = .ok (.aload_n 0, 1) := by decide +kernel
theorem d2_51 : decode method_3_code 51 = .ok (.iload_n 1, 1) := by decide +kernel
theorem d2_52 : decode method_3_code 52 = .ok (.iconst 5, 1) := by decide +kernel
theorem d2_53 : decode method_3_code 53 = .ok (.iadd, 1) := by decide +kernel
theorem d2_54 : decode method_3_code 54 = .ok (.lload_n 2, 1) := by decide +kernel
theorem d2_55 : decode method_3_code 55 = .ok (.bipush 40, 2) := by decide +kernel
theorem d2_57 : decode method_3_code 57 = .ok (.lushr, 1) := by decide +kernel
theorem d2_58 : decode method_3_code 58 = .ok (.l2i, 1) := by decide +kernel
theorem d2_59 : decode method_3_code 59 = .ok (.i2b, 1) := by decide +kernel
theorem d2_60 : decode method_3_code 60 = .ok (.bastore, 1) := by decide +kernel
theorem d2_61 : decode method_3_code 61 = .ok (.aload_n 0, 1) := by decide +kernel
theorem d2_62 : decode method_3_code 62 = .ok (.iload_n 1, 1) := by decide +kernel
theorem d2_63 : decode method_3_code 63 = .ok (.bipush 6, 2) := by decide +kernel
theorem d2_65 : decode method_3_code 65 = .ok (.iadd, 1) := by decide +kernel
theorem d2_66 : decode method_3_code 66 = .ok (.lload_n 2, 1) := by decide +kernel
theorem d2_67 : decode method_3_code 67 = .ok (.bipush 48, 2) := by decide +kernel
theorem d2_69 : decode method_3_code 69 = .ok (.lushr, 1) := by decide +kernel
theorem d2_70 : decode method_3_code 70 = .ok (.l2i, 1) := by decide +kernel
theorem d2_71 : decode method_3_code 71 = .ok (.i2b, 1) := by decide +kernel
theorem d2_72 : decode method_3_code 72 = .ok (.bastore, 1) := by decide +kernel
theorem d2_73 : decode method_3_code 73 = .ok (.aload_n 0, 1) := by decide +kernel
theorem d2_74 : decode method_3_code 74 = .ok (.iload_n 1, 1) := by decide +kernel
theorem d2_75 : decode method_3_code 75 = .ok (.bipush 7, 2) := by decide +kernel
theorem d2_77 : decode method_3_code 77 = .ok (.iadd, 1) := by decide +kernel
theorem d2_78 : decode method_3_code 78 = .ok (.lload_n 2, 1) := by decide +kernel
theorem d2_79 : decode method_3_code 79 = .ok (.bipush 56, 2) := by decide +kernel
theorem d2_81 : decode method_3_code 81 = .ok (.lushr, 1) := by decide +kernel
theorem d2_82 : decode method_3_code 82 = .ok (.l2i, 1) := by decide +kernel
theorem d2_83 : decode method_3_code 83 = .ok (.i2b, 1) := by decide +kernel
theorem d2_84 : decode method_3_code 84 = .ok (.bastore, 1) := by decide +kernel
theorem d2_85 : decode method_3_code 85 = .ok (.return_, 1) := by decide +kernel
theorem opn_com_example_structlane_structlane_header_SipHashHashPinLaw : plainName "com/example/structlane/structlane/header/SipHashHashPinLaw" = true := by first | (simp [plainName, overriddenIn]; done) | decide +kernel
theorem oef_rm_put (m : MethodId) (ra : Addr) (u0 : Int32) (u1 : Int64) : entryFrame m #[(.ref ra), (.int u0), (.long u1)] 4 = mkF m 0 #[vR ra, vI u0, vL u1, vS] [] := by first | (simp [entryFrame, mkF, argsToLocals, Value.category]; done) | rfl
set_option maxRecDepth 65536 in
set_option maxHeartbeats 40000000 in
theorem rm_put (l : Launch) (Z : State) (a0 : Array Value) (hw : ∀ d ∈ tables_1, d.before a0 Z = true) (ra : Addr) (u0 : Int32) (u1 : Int64) (gg : Nat → Int32) (h0 : Heap) (n0 : Nat) (Z0 : n0 ≤ h0.size) (P0 : own_AI Z h0 ra .byte (24 : Int32) gg) (g_ra : n0 ≤ ra) (hO : 0 ≤ u0.toInt ∧ u0.toInt ≤ 16) :
    own_M l Z (⟨"com/example/structlane/structlane/header/SipHashHashPinLaw", "put", "([BIJ)V"⟩ : MethodName) method_3_code 4 none [] ({ frames := 0, cells := 0, slots := 0, locals := 0 } : Room) #[(.ref ra), (.int u0), (.long u1)] h0 (fun v h L => ∃ g2 : Nat → Int32, v = none ∧ Fr n0 L ∧ (Keep h0 h [ra]) ∧ (own_AI Z h ra .byte (24 : Int32) g2)) 0 0 := by
  refine own_body (plainFor_of_name opn_com_example_structlane_structlane_header_SipHashHashPinLaw) ?_
  intro p e s m below meth c s1 hx hby hml hown hnm hret hlk hZ X0 e0
  rw [oef_rm_put m ra u0 u1]
  have N0 := Fr.nil n0
  refine own_aloadN X0 hx (hb hby d2_0) rfl rfl (pc' := 1) rfl ?_
  refine own_iloadN X0 hx (hb hby d2_1) rfl (pc' := 2) rfl ?_
  refine own_lloadN X0 hx (hb hby d2_2) rfl (pc' := 3) rfl ?_
  refine own_l2i X0 hx (hb hby d2_3) (pc' := 4) rfl ?_
  refine own_i2b X0 hx (hb hby d2_4) (pc' := 5) rfl ?_
  refine own_bastore X0 hx hZ e0 (g' := (fun i => if i = u0.toNatClampNeg then u1.toInt32.toInt8.toInt32 else gg i)) P0 (x' := u1.toInt32.toInt8.toInt32) (own_ib0 hO) (own_nar _) (fun i _ => rfl) (hb hby d2_5) (pc' := 6) rfl ?_
  intro T1 h1 X1 e1 W1 A1
  have N1 := Fr.snoc X1 N0 g_ra
  refine own_aloadN X1 hx (hb hby d2_6) rfl rfl (pc' := 7) rfl ?_
  refine own_iloadN X1 hx (hb hby d2_7) rfl (pc' := 8) rfl ?_
  refine own_iconst X1 hx (hb hby d2_8) (z := (1 : Int32)) rfl (pc' := 9) rfl ?_
  refine own_iadd X1 hx (hb hby d2_9) (pc' := 10) rfl ?_
  refine own_lloadN X1 hx (hb hby d2_10) rfl (pc' := 11) rfl ?_
  refine own_bipush X1 hx (hb hby d2_11) (z := (8 : Int32)) (by decide) (pc' := 13) rfl ?_
  refine own_lushr X1 hx (hb hby d2_13) (pc' := 14) rfl ?_
  refine own_l2i X1 hx (hb hby d2_14) (pc' := 15) rfl ?_
  refine own_i2b X1 hx (hb hby d2_15) (pc' := 16) rfl ?_
  refine own_bastore X1 hx hZ e1 (g' := (fun i => if i = (u0 + (1 : Int32)).toNatClampNeg then (((u1.toUInt64 >>> ((8 : Int32) &&& 0x3f).toInt64.toUInt64).toInt64).toInt32).toInt8.toInt32 else (fun i => if i = u0.toNatClampNeg then u1.toInt32.toInt8.toInt32 else gg i) i)) A1 (x' := (((u1.toUInt64 >>> ((8 : Int32) &&& 0x3f).toInt64.toUInt64).toInt64).toInt32).toInt8.toInt32) (own_ibk hO (by decide)) (own_nar _) (fun i _ => rfl) (hb hby d2_16) (pc' := 17) rfl ?_
  intro T2 h2 X2 e2 W2 A2
  have N2 := Fr.snoc X2 N1 g_ra
  refine own_aloadN X2 hx (hb hby d2_17) rfl rfl (pc' := 18) rfl ?_
  refine own_iloadN X2 hx (hb hby d2_18) rfl (pc' := 19) rfl ?_
  refine own_iconst X2 hx (hb hby d2_19) (z := (2 : Int32)) rfl (pc' := 20) rfl ?_
  refine own_iadd X2 hx (hb hby d2_20) (pc' := 21) rfl ?_
  refine own_lloadN X2 hx (hb hby d2_21) rfl (pc' := 22) rfl ?_
  refine own_bipush X2 hx (hb hby d2_22) (z := (16 : Int32)) (by decide) (pc' := 24) rfl ?_
  refine own_lushr X2 hx (hb hby d2_24) (pc' := 25) rfl ?_
  refine own_l2i X2 hx (hb hby d2_25) (pc' := 26) rfl ?_
  refine own_i2b X2 hx (hb hby d2_26) (pc' := 27) rfl ?_
  refine own_bastore X2 hx hZ e2 (g' := (fun i => if i = (u0 + (2 : Int32)).toNatClampNeg then (((u1.toUInt64 >>> ((16 : Int32) &&& 0x3f).toInt64.toUInt64).toInt64).toInt32).toInt8.toInt32 else (fun i => if i = (u0 + (1 : Int32)).toNatClampNeg then (((u1.toUInt64 >>> ((8 : Int32) &&& 0x3f).toInt64.toUInt64).toInt64).toInt32).toInt8.toInt32 else (fun i => if i = u0.toNatClampNeg then u1.toInt32.toInt8.toInt32 else gg i) i) i)) A2 (x' := (((u1.toUInt64 >>> ((16 : Int32) &&& 0x3f).toInt64.toUInt64).toInt64).toInt32).toInt8.toInt32) (own_ibk hO (by decide)) (own_nar _) (fun i _ => rfl) (hb hby d2_27) (pc' := 28) rfl ?_
  intro T3 h3 X3 e3 W3 A3
  have N3 := Fr.snoc X3 N2 g_ra
  refine own_aloadN X3 hx (hb hby d2_28) rfl rfl (pc' := 29) rfl ?_
  refine own_iloadN X3 hx (hb hby d2_29) rfl (pc' := 30) rfl ?_
  refine own_iconst X3 hx (hb hby d2_30) (z := (3 : Int32)) rfl (pc' := 31) rfl ?_
  refine own_iadd X3 hx (hb hby d2_31) (pc' := 32) rfl ?_
  refine own_lloadN X3 hx (hb hby d2_32) rfl (pc' := 33) rfl ?_
  refine own_bipush X3 hx (hb hby d2_33) (z := (24 : Int32)) (by decide) (pc' := 35) rfl ?_
  refine own_lushr X3 hx (hb hby d2_35) (pc' := 36) rfl ?_
  refine own_l2i X3 hx (hb hby d2_36) (pc' := 37) rfl ?_
  refine own_i2b X3 hx (hb hby d2_37) (pc' := 38) rfl ?_
  refine own_bastore X3 hx hZ e3 (g' := (fun i => if i = (u0 + (3 : Int32)).toNatClampNeg then (((u1.toUInt64 >>> ((24 : Int32) &&& 0x3f).toInt64.toUInt64).toInt64).toInt32).toInt8.toInt32 else (fun i => if i = (u0 + (2 : Int32)).toNatClampNeg then (((u1.toUInt64 >>> ((16 : Int32) &&& 0x3f).toInt64.toUInt64).toInt64).toInt32).toInt8.toInt32 else (fun i => if i = (u0 + (1 : Int32)).toNatClampNeg then (((u1.toUInt64 >>> ((8 : Int32) &&& 0x3f).toInt64.toUInt64).toInt64).toInt32).toInt8.toInt32 else (fun i => if i = u0.toNatClampNeg then u1.toInt32.toInt8.toInt32 else gg i) i) i) i)) A3 (x' := (((u1.toUInt64 >>> ((24 : Int32) &&& 0x3f).toInt64.toUInt64).toInt64).toInt32).toInt8.toInt32) (own_ibk hO (by decide)) (own_nar _) (fun i _ => rfl) (hb hby d2_38) (pc' := 39) rfl ?_
  intro T4 h4 X4 e4 W4 A4
  have N4 := Fr.snoc X4 N3 g_ra
  refine own_aloadN X4 hx (hb hby d2_39) rfl rfl (pc' := 40) rfl ?_
  refine own_iloadN X4 hx (hb hby d2_40) rfl (pc' := 41) rfl ?_
  refine own_iconst X4 hx (hb hby d2_41) (z := (4 : Int32)) rfl (pc' := 42) rfl ?_
  refine own_iadd X4 hx (hb hby d2_42) (pc' := 43) rfl ?_
  refine own_lloadN X4 hx (hb hby d2_43) rfl (pc' := 44) rfl ?_
  refine own_bipush X4 hx (hb hby d2_44) (z := (32 : Int32)) (by decide) (pc' := 46) rfl ?_
  refine own_lushr X4 hx (hb hby d2_46) (pc' := 47) rfl ?_
  refine own_l2i X4 hx (hb hby d2_47) (pc' := 48) rfl ?_
  refine own_i2b X4 hx (hb hby d2_48) (pc' := 49) rfl ?_
  refine own_bastore X4 hx hZ e4 (g' := (fun i => if i = (u0 + (4 : Int32)).toNatClampNeg then (((u1.toUInt64 >>> ((32 : Int32) &&& 0x3f).toInt64.toUInt64).toInt64).toInt32).toInt8.toInt32 else (fun i => if i = (u0 + (3 : Int32)).toNatClampNeg then (((u1.toUInt64 >>> ((24 : Int32) &&& 0x3f).toInt64.toUInt64).toInt64).toInt32).toInt8.toInt32 else (fun i => if i = (u0 + (2 : Int32)).toNatClampNeg then (((u1.toUInt64 >>> ((16 : Int32) &&& 0x3f).toInt64.toUInt64).toInt64).toInt32).toInt8.toInt32 else (fun i => if i = (u0 + (1 : Int32)).toNatClampNeg then (((u1.toUInt64 >>> ((8 : Int32) &&& 0x3f).toInt64.toUInt64).toInt64).toInt32).toInt8.toInt32 else (fun i => if i = u0.toNatClampNeg then u1.toInt32.toInt8.toInt32 else gg i) i) i) i) i)) A4 (x' := (((u1.toUInt64 >>> ((32 : Int32) &&& 0x3f).toInt64.toUInt64).toInt64).toInt32).toInt8.toInt32) (own_ibk hO (by decide)) (own_nar _) (fun i _ => rfl) (hb hby d2_49) (pc' := 50) rfl ?_
  intro T5 h5 X5 e5 W5 A5
  have N5 := Fr.snoc X5 N4 g_ra
  refine own_aloadN X5 hx (hb hby d2_50) rfl rfl (pc' := 51) rfl ?_
  refine own_iloadN X5 hx (hb hby d2_51) rfl (pc' := 52) rfl ?_
  refine own_iconst X5 hx (hb hby d2_52) (z := (5 : Int32)) rfl (pc' := 53) rfl ?_
  refine own_iadd X5 hx (hb hby d2_53) (pc' := 54) rfl ?_
  refine own_lloadN X5 hx (hb hby d2_54) rfl (pc' := 55) rfl ?_
  refine own_bipush X5 hx (hb hby d2_55) (z := (40 : Int32)) (by decide) (pc' := 57) rfl ?_
  refine own_lushr X5 hx (hb hby d2_57) (pc' := 58) rfl ?_
  refine own_l2i X5 hx (hb hby d2_58) (pc' := 59) rfl ?_
  refine own_i2b X5 hx (hb hby d2_59) (pc' := 60) rfl ?_
  refine own_bastore X5 hx hZ e5 (g' := (fun i => if i = (u0 + (5 : Int32)).toNatClampNeg then (((u1.toUInt64 >>> ((40 : Int32) &&& 0x3f).toInt64.toUInt64).toInt64).toInt32).toInt8.toInt32 else (fun i => if i = (u0 + (4 : Int32)).toNatClampNeg then (((u1.toUInt64 >>> ((32 : Int32) &&& 0x3f).toInt64.toUInt64).toInt64).toInt32).toInt8.toInt32 else (fun i => if i = (u0 + (3 : Int32)).toNatClampNeg then (((u1.toUInt64 >>> ((24 : Int32) &&& 0x3f).toInt64.toUInt64).toInt64).toInt32).toInt8.toInt32 else (fun i => if i = (u0 + (2 : Int32)).toNatClampNeg then (((u1.toUInt64 >>> ((16 : Int32) &&& 0x3f).toInt64.toUInt64).toInt64).toInt32).toInt8.toInt32 else (fun i => if i = (u0 + (1 : Int32)).toNatClampNeg then (((u1.toUInt64 >>> ((8 : Int32) &&& 0x3f).toInt64.toUInt64).toInt64).toInt32).toInt8.toInt32 else (fun i => if i = u0.toNatClampNeg then u1.toInt32.toInt8.toInt32 else gg i) i) i) i) i) i)) A5 (x' := (((u1.toUInt64 >>> ((40 : Int32) &&& 0x3f).toInt64.toUInt64).toInt64).toInt32).toInt8.toInt32) (own_ibk hO (by decide)) (own_nar _) (fun i _ => rfl) (hb hby d2_60) (pc' := 61) rfl ?_
  intro T6 h6 X6 e6 W6 A6
  have N6 := Fr.snoc X6 N5 g_ra
  refine own_aloadN X6 hx (hb hby d2_61) rfl rfl (pc' := 62) rfl ?_
  refine own_iloadN X6 hx (hb hby d2_62) rfl (pc' := 63) rfl ?_
  refine own_bipush X6 hx (hb hby d2_63) (z := (6 : Int32)) (by decide) (pc' := 65) rfl ?_
  refine own_iadd X6 hx (hb hby d2_65) (pc' := 66) rfl ?_
  refine own_lloadN X6 hx (hb hby d2_66) rfl (pc' := 67) rfl ?_
  refine own_bipush X6 hx (hb hby d2_67) (z := (48 : Int32)) (by decide) (pc' := 69) rfl ?_
  refine own_lushr X6 hx (hb hby d2_69) (pc' := 70) rfl ?_
  refine own_l2i X6 hx (hb hby d2_70) (pc' := 71) rfl ?_
  refine own_i2b X6 hx (hb hby d2_71) (pc' := 72) rfl ?_
  refine own_bastore X6 hx hZ e6 (g' := (fun i => if i = (u0 + (6 : Int32)).toNatClampNeg then (((u1.toUInt64 >>> ((48 : Int32) &&& 0x3f).toInt64.toUInt64).toInt64).toInt32).toInt8.toInt32 else (fun i => if i = (u0 + (5 : Int32)).toNatClampNeg then (((u1.toUInt64 >>> ((40 : Int32) &&& 0x3f).toInt64.toUInt64).toInt64).toInt32).toInt8.toInt32 else (fun i => if i = (u0 + (4 : Int32)).toNatClampNeg then (((u1.toUInt64 >>> ((32 : Int32) &&& 0x3f).toInt64.toUInt64).toInt64).toInt32).toInt8.toInt32 else (fun i => if i = (u0 + (3 : Int32)).toNatClampNeg then (((u1.toUInt64 >>> ((24 : Int32) &&& 0x3f).toInt64.toUInt64).toInt64).toInt32).toInt8.toInt32 else (fun i => if i = (u0 + (2 : Int32)).toNatClampNeg then (((u1.toUInt64 >>> ((16 : Int32) &&& 0x3f).toInt64.toUInt64).toInt64).toInt32).toInt8.toInt32 else (fun i => if i = (u0 + (1 : Int32)).toNatClampNeg then (((u1.toUInt64 >>> ((8 : Int32) &&& 0x3f).toInt64.toUInt64).toInt64).toInt32).toInt8.toInt32 else (fun i => if i = u0.toNatClampNeg then u1.toInt32.toInt8.toInt32 else gg i) i) i) i) i) i) i)) A6 (x' := (((u1.toUInt64 >>> ((48 : Int32) &&& 0x3f).toInt64.toUInt64).toInt64).toInt32).toInt8.toInt32) (own_ibk hO (by decide)) (own_nar _) (fun i _ => rfl) (hb hby d2_72) (pc' := 73) rfl ?_
  intro T7 h7 X7 e7 W7 A7
  have N7 := Fr.snoc X7 N6 g_ra
  refine own_aloadN X7 hx (hb hby d2_73) rfl rfl (pc' := 74) rfl ?_
  refine own_iloadN X7 hx (hb hby d2_74) rfl (pc' := 75) rfl ?_
  refine own_bipush X7 hx (hb hby d2_75) (z := (7 : Int32)) (by decide) (pc' := 77) rfl ?_
  refine own_iadd X7 hx (hb hby d2_77) (pc' := 78) rfl ?_
  refine own_lloadN X7 hx (hb hby d2_78) rfl (pc' := 79) rfl ?_
  refine own_bipush X7 hx (hb hby d2_79) (z := (56 : Int32)) (by decide) (pc' := 81) rfl ?_
  refine own_lushr X7 hx (hb hby d2_81) (pc' := 82) rfl ?_
  refine own_l2i X7 hx (hb hby d2_82) (pc' := 83) rfl ?_
  refine own_i2b X7 hx (hb hby d2_83) (pc' := 84) rfl ?_
  refine own_bastore X7 hx hZ e7 (g' := (fun i => if i = (u0 + (7 : Int32)).toNatClampNeg then (((u1.toUInt64 >>> ((56 : Int32) &&& 0x3f).toInt64.toUInt64).toInt64).toInt32).toInt8.toInt32 else (fun i => if i = (u0 + (6 : Int32)).toNatClampNeg then (((u1.toUInt64 >>> ((48 : Int32) &&& 0x3f).toInt64.toUInt64).toInt64).toInt32).toInt8.toInt32 else (fun i => if i = (u0 + (5 : Int32)).toNatClampNeg then (((u1.toUInt64 >>> ((40 : Int32) &&& 0x3f).toInt64.toUInt64).toInt64).toInt32).toInt8.toInt32 else (fun i => if i = (u0 + (4 : Int32)).toNatClampNeg then (((u1.toUInt64 >>> ((32 : Int32) &&& 0x3f).toInt64.toUInt64).toInt64).toInt32).toInt8.toInt32 else (fun i => if i = (u0 + (3 : Int32)).toNatClampNeg then (((u1.toUInt64 >>> ((24 : Int32) &&& 0x3f).toInt64.toUInt64).toInt64).toInt32).toInt8.toInt32 else (fun i => if i = (u0 + (2 : Int32)).toNatClampNeg then (((u1.toUInt64 >>> ((16 : Int32) &&& 0x3f).toInt64.toUInt64).toInt64).toInt32).toInt8.toInt32 else (fun i => if i = (u0 + (1 : Int32)).toNatClampNeg then (((u1.toUInt64 >>> ((8 : Int32) &&& 0x3f).toInt64.toUInt64).toInt64).toInt32).toInt8.toInt32 else (fun i => if i = u0.toNatClampNeg then u1.toInt32.toInt8.toInt32 else gg i) i) i) i) i) i) i) i)) A7 (x' := (((u1.toUInt64 >>> ((56 : Int32) &&& 0x3f).toInt64.toUInt64).toInt64).toInt32).toInt8.toInt32) (own_ibk hO (by decide)) (own_nar _) (fun i _ => rfl) (hb hby d2_84) (pc' := 85) rfl ?_
  intro T8 h8 X8 e8 W8 A8
  have N8 := Fr.snoc X8 N7 g_ra
  have k17 : Keep h0 h8 [ra] := (Keep.wr (Keep.wr (Keep.wr (Keep.wr (Keep.wr (Keep.wr (Keep.wr (Keep.wr (Keep.refl _ _) W1 (Or.inl (List.mem_of_getElem? (i := 0) rfl))) W2 (Or.inl (List.mem_of_getElem? (i := 0) rfl))) W3 (Or.inl (List.mem_of_getElem? (i := 0) rfl))) W4 (Or.inl (List.mem_of_getElem? (i := 0) rfl))) W5 (Or.inl (List.mem_of_getElem? (i := 0) rfl))) W6 (Or.inl (List.mem_of_getElem? (i := 0) rfl))) W7 (Or.inl (List.mem_of_getElem? (i := 0) rfl))) W8 (Or.inl (List.mem_of_getElem? (i := 0) rfl)))
  exact own_retV X8 hx hret hlk (hb hby d2_85) ⟨(fun i => if i = (u0 + (7 : Int32)).toNatClampNeg then (((u1.toUInt64 >>> ((56 : Int32) &&& 0x3f).toInt64.toUInt64).toInt64).toInt32).toInt8.toInt32 else (fun i => if i = (u0 + (6 : Int32)).toNatClampNeg then (((u1.toUInt64 >>> ((48 : Int32) &&& 0x3f).toInt64.toUInt64).toInt64).toInt32).toInt8.toInt32 else (fun i => if i = (u0 + (5 : Int32)).toNatClampNeg then (((u1.toUInt64 >>> ((40 : Int32) &&& 0x3f).toInt64.toUInt64).toInt64).toInt32).toInt8.toInt32 else (fun i => if i = (u0 + (4 : Int32)).toNatClampNeg then (((u1.toUInt64 >>> ((32 : Int32) &&& 0x3f).toInt64.toUInt64).toInt64).toInt32).toInt8.toInt32 else (fun i => if i = (u0 + (3 : Int32)).toNatClampNeg then (((u1.toUInt64 >>> ((24 : Int32) &&& 0x3f).toInt64.toUInt64).toInt64).toInt32).toInt8.toInt32 else (fun i => if i = (u0 + (2 : Int32)).toNatClampNeg then (((u1.toUInt64 >>> ((16 : Int32) &&& 0x3f).toInt64.toUInt64).toInt64).toInt32).toInt8.toInt32 else (fun i => if i = (u0 + (1 : Int32)).toNatClampNeg then (((u1.toUInt64 >>> ((8 : Int32) &&& 0x3f).toInt64.toUInt64).toInt64).toInt32).toInt8.toInt32 else (fun i => if i = u0.toNatClampNeg then u1.toInt32.toInt8.toInt32 else gg i) i) i) i) i) i) i) i), rfl, N8, (by rw [e8]; exact k17), (by rw [e8]; exact A8)⟩ (by decide) (by decide)
theorem d3_0 : decode method_4_code 0 = .ok (.lconst 0, 1) := by decide +kernel
theorem d3_1 : decode method_4_code 1 = .ok (.lstore_n 3, 1) := by decide +kernel
theorem d3_2 : decode method_4_code 2 = .ok (.iload_n 2, 1) := by decide +kernel
theorem d3_3 : decode method_4_code 3 = .ok (.ifCond .le 14, 3) := by decide +kernel
theorem d3_6 : decode method_4_code 6 = .ok (.lload_n 3, 1) := by decide +kernel
theorem d3_7 : decode method_4_code 7 = .ok (.aload_n 0, 1) := by decide +kernel
theorem d3_8 : decode method_4_code 8 = .ok (.iload_n 1, 1) := by decide +kernel
theorem d3_9 : decode method_4_code 9 = .ok (.baload, 1) := by decide +kernel
theorem d3_10 : decode method_4_code 10 = .ok (.sipush 255, 3) := by decide +kernel
theorem d3_13 : decode method_4_code 13 = .ok (.iand, 1) := by decide +kernel
theorem d3_14 : decode method_4_code 14 = .ok (.i2l, 1) := by decide +kernel
theorem d3_15 : decode method_4_code 15 = .ok (.lor, 1) := by decide +kernel
theorem d3_16 : decode method_4_code 16 = .ok (.lstore_n 3, 1) := by decide +kernel
theorem d3_17 : decode method_4_code 17 = .ok (.iload_n 2, 1) := by decide +kernel
theorem d3_18 : decode method_4_code 18 = .ok (.iconst 1, 1) := by decide +kernel
theorem d3_19 : decode method_4_code 19 = .ok (.if_icmp .le 19, 3) := by decide +kernel
theorem d3_22 : decode method_4_code 22 = .ok (.lload_n 3, 1) := by decide +kernel
theorem d3_23 : decode method_4_code 23 = .ok (.aload_n 0, 1) := by decide +kernel
theorem d3_24 : decode method_4_code 24 = .ok (.iload_n 1, 1) := by decide +kernel
theorem d3_25 : decode method_4_code 25 = .ok (.iconst 1, 1) := by decide +kernel
theorem d3_26 : decode method_4_code 26 = .ok (.iadd, 1) := by decide +kernel
theorem d3_27 : decode method_4_code 27 = .ok (.baload, 1) := by decide +kernel
theorem d3_28 : decode method_4_code 28 = .ok (.sipush 255, 3) := by decide +kernel
theorem d3_31 : decode method_4_code 31 = .ok (.iand, 1) := by decide +kernel
theorem d3_32 : decode method_4_code 32 = .ok (.i2l, 1) := by decide +kernel
theorem d3_33 : decode method_4_code 33 = .ok (.bipush 8, 2) := by decide +kernel
theorem d3_35 : decode method_4_code 35 = .ok (.lshl, 1) := by decide +kernel
theorem d3_36 : decode method_4_code 36 = .ok (.lor, 1) := by decide +kernel
theorem d3_37 : decode method_4_code 37 = .ok (.lstore_n 3, 1) := by decide +kernel
theorem d3_38 : decode method_4_code 38 = .ok (.iload_n 2, 1) := by decide +kernel
theorem d3_39 : decode method_4_code 39 = .ok (.iconst 2, 1) := by decide +kernel
theorem d3_40 : decode method_4_code 40 = .ok (.if_icmp .le 19, 3) := by decide +kernel
theorem d3_43 : decode method_4_code 43 = .ok (.lload_n 3, 1) := by decide +kernel
theorem d3_44 : decode method_4_code 44 = .ok (.aload_n 0, 1) := by decide +kernel
theorem d3_45 : decode method_4_code 45 = .ok (.iload_n 1, 1) := by decide +kernel
theorem d3_46 : decode method_4_code 46 = .ok (.iconst 2, 1) := by decide +kernel
theorem d3_47 : decode method_4_code 47 = .ok (.iadd, 1) := by decide +kernel
theorem d3_48 : decode method_4_code 48 = .ok (.baload, 1) := by decide +kernel
theorem d3_49 : decode method_4_code 49 = .ok (.sipush 255, 3) := by decide +kernel
theorem d3_52 : decode method_4_code 52 = .ok (.iand, 1) := by decide +kernel
theorem d3_53 : decode method_4_code 53 = .ok (.i2l, 1) := by decide +kernel
theorem d3_54 : decode method_4_code 54 = .ok (.bipush 16, 2) := by decide +kernel
theorem d3_56 : decode method_4_code 56 = .ok (.lshl, 1) := by decide +kernel
theorem d3_57 : decode method_4_code 57 = .ok (.lor, 1) := by decide +kernel
theorem d3_58 : decode method_4_code 58 = .ok (.lstore_n 3, 1) := by decide +kernel
theorem d3_59 : decode method_4_code 59 = .ok (.iload_n 2, 1) := by decide +kernel
theorem d3_60 : decode method_4_code 60 = .ok (.iconst 3, 1) := by decide +kernel
theorem d3_61 : decode method_4_code 61 = .ok (.if_icmp .le 19, 3) := by decide +kernel
theorem d3_64 : decode method_4_code 64 = .ok (.lload_n 3, 1) := by decide +kernel
theorem d3_65 : decode method_4_code 65 = .ok (.aload_n 0, 1) := by decide +kernel
theorem d3_66 : decode method_4_code 66 = .ok (.iload_n 1, 1) := by decide +kernel
theorem d3_67 : decode method_4_code 67 = .ok (.iconst 3, 1) := by decide +kernel
theorem d3_68 : decode method_4_code 68 = .ok (.iadd, 1) := by decide +kernel
theorem d3_69 : decode method_4_code 69 = .ok (.baload, 1) := by decide +kernel
theorem d3_70 : decode method_4_code 70 = .ok (.sipush 255, 3) := by decide +kernel
theorem d3_73 : decode method_4_code 73 = .ok (.iand, 1) := by decide +kernel
theorem d3_74 : decode method_4_code 74 = .ok (.i2l, 1) := by decide +kernel
theorem d3_75 : decode method_4_code 75 = .ok (.bipush 24, 2) := by decide +kernel
theorem d3_77 : decode method_4_code 77 = .ok (.lshl, 1) := by decide +kernel
theorem d3_78 : decode method_4_code 78 = .ok (.lor, 1) := by decide +kernel
theorem d3_79 : decode method_4_code 79 = .ok (.lstore_n 3, 1) := by decide +kernel
theorem d3_80 : decode method_4_code 80 = .ok (.iload_n 2, 1) := by decide +kernel
theorem d3_81 : decode method_4_code 81 = .ok (.iconst 4, 1) := by decide +kernel
theorem d3_82 : decode method_4_code 82 = .ok (.if_icmp .le 19, 3) := by decide +kernel
theorem d3_85 : decode method_4_code 85 = .ok (.lload_n 3, 1) := by decide +kernel
theorem d3_86 : decode method_4_code 86 = .ok (.aload_n 0, 1) := by decide +kernel
theorem d3_87 : decode method_4_code 87 = .ok (.iload_n 1, 1) := by decide +kernel
theorem d3_88 : decode method_4_code 88 = .ok (.iconst 4, 1) := by decide +kernel
theorem d3_89 : decode method_4_code 89 = .ok (.iadd, 1) := by decide +kernel
theorem d3_90 : decode method_4_code 90 = .ok (.baload, 1) := by decide +kernel
theorem d3_91 : decode method_4_code 91 = .ok (.sipush 255, 3) := by decide +kernel
theorem d3_94 : decode method_4_code 94 = .ok (.iand, 1) := by decide +kernel
theorem d3_95 : decode method_4_code 95 = .ok (.i2l, 1) := by decide +kernel
theorem d3_96 : decode method_4_code 96 = .ok (.bipush 32, 2) := by decide +kernel
theorem d3_98 : decode method_4_code 98 = .ok (.lshl, 1) := by decide +kernel
theorem d3_99 : decode method_4_code 99 = .ok (.lor, 1) := by decide +kernel
theorem d3_100 : decode method_4_code 100 = .ok (.lstore_n 3, 1) := by decide +kernel
theorem d3_101 : decode method_4_code 101 = .ok (.iload_n 2, 1) := by decide +kernel
theorem d3_102 : decode method_4_code 102 = .ok (.iconst 5, 1) := by decide +kernel
theorem d3_103 : decode method_4_code 103 = .ok (.if_icmp .le 19, 3) := by decide +kernel
theorem d3_106 : decode method_4_code 106 = .ok (.lload_n 3, 1) := by decide +kernel
theorem d3_107 : decode method_4_code 107 = .ok (.aload_n 0, 1) := by decide +kernel
theorem d3_108 : decode method_4_code 108 = .ok (.iload_n 1, 1) := by decide +kernel
theorem d3_109 : decode method_4_code 109 = .ok (.iconst 5, 1) := by decide +kernel
theorem d3_110 : decode method_4_code 110 = .ok (.iadd, 1) := by decide +kernel
theorem d3_111 : decode method_4_code 111 = .ok (.baload, 1) := by decide +kernel
theorem d3_112 : decode method_4_code 112 = .ok (.sipush 255, 3) := by decide +kernel
theorem d3_115 : decode method_4_code 115 = .ok (.iand, 1) := by decide +kernel
theorem d3_116 : decode method_4_code 116 = .ok (.i2l, 1) := by decide +kernel
theorem d3_117 : decode method_4_code 117 = .ok (.bipush 40, 2) := by decide +kernel
theorem d3_119 : decode method_4_code 119 = .ok (.lshl, 1) := by decide +kernel
theorem d3_120 : decode method_4_code 120 = .ok (.lor, 1) := by decide +kernel
theorem d3_121 : decode method_4_code 121 = .ok (.lstore_n 3, 1) := by decide +kernel
theorem d3_122 : decode method_4_code 122 = .ok (.iload_n 2, 1) := by decide +kernel
theorem d3_123 : decode method_4_code 123 = .ok (.bipush 6, 2) := by decide +kernel
theorem d3_125 : decode method_4_code 125 = .ok (.if_icmp .le 20, 3) := by decide +kernel
theorem d3_128 : decode method_4_code 128 = .ok (.lload_n 3, 1) := by decide +kernel
theorem d3_129 : decode method_4_code 129 = .ok (.aload_n 0, 1) := by decide +kernel
theorem d3_130 : decode method_4_code 130 = .ok (.iload_n 1, 1) := by decide +kernel
theorem d3_131 : decode method_4_code 131 = .ok (.bipush 6, 2) := by decide +kernel
theorem d3_133 : decode method_4_code 133 = .ok (.iadd, 1) := by decide +kernel
theorem d3_134 : decode method_4_code 134 = .ok (.baload, 1) := by decide +kernel
theorem d3_135 : decode method_4_code 135 = .ok (.sipush 255, 3) := by decide +kernel
theorem d3_138 : decode method_4_code 138 = .ok (.iand, 1) := by decide +kernel
theorem d3_139 : decode method_4_code 139 = .ok (.i2l, 1) := by decide +kernel
theorem d3_140 : decode method_4_code 140 = .ok (.bipush 48, 2) := by decide +kernel
theorem d3_142 : decode method_4_code 142 = .ok (.lshl, 1) := by decide +kernel
theorem d3_143 : decode method_4_code 143 = .ok (.lor, 1) := by decide +kernel
theorem d3_144 : decode method_4_code 144 = .ok (.lstore_n 3, 1) := by decide +kernel
theorem d3_145 : decode method_4_code 145 = .ok (.iload_n 2, 1) := by decide +kernel
theorem d3_146 : decode method_4_code 146 = .ok (.bipush 7, 2) := by decide +kernel
theorem d3_148 : decode method_4_code 148 = .ok (.if_icmp .le 20, 3) := by decide +kernel
theorem d3_151 : decode method_4_code 151 = .ok (.lload_n 3, 1) := by decide +kernel
theorem d3_152 : decode method_4_code 152 = .ok (.aload_n 0, 1) := by decide +kernel
theorem d3_153 : decode method_4_code 153 = .ok (.iload_n 1, 1) := by decide +kernel
theorem d3_154 : decode method_4_code 154 = .ok (.bipush 7, 2) := by decide +kernel
theorem d3_156 : decode method_4_code 156 = .ok (.iadd, 1) := by decide +kernel
theorem d3_157 : decode method_4_code 157 = .ok (.baload, 1) := by decide +kernel
theorem d3_158 : decode method_4_code 158 = .ok (.sipush 255, 3) := by decide +kernel
theorem d3_161 : decode method_4_code 161 = .ok (.iand, 1) := by decide +kernel
theorem d3_162 : decode method_4_code 162 = .ok (.i2l, 1) := by decide +kernel
theorem d3_163 : decode method_4_code 163 = .ok (.bipush 56, 2) := by decide +kernel
theorem d3_165 : decode method_4_code 165 = .ok (.lshl, 1) := by decide +kernel
theorem d3_166 : decode method_4_code 166 = .ok (.lor, 1) := by decide +kernel
theorem d3_167 : decode method_4_code 167 = .ok (.lstore_n 3, 1) := by decide +kernel
theorem d3_168 : decode method_4_code 168 = .ok (.lload_n 3, 1) := by decide +kernel
theorem d3_169 : decode method_4_code 169 = .ok (.lreturn, 1) := by decide +kernel
theorem oef_rm_le8 (m : MethodId) (ra : Addr) (u0 : Int32) (u1 : Int32) : entryFrame m #[(.ref ra), (.int u0), (.int u1)] 5 = mkF m 0 #[vR ra, vI u0, vI u1, vU, vU] [] := by first | (simp [entryFrame, mkF, argsToLocals, Value.category]; done) | rfl
set_option maxRecDepth 65536 in
set_option maxHeartbeats 40000000 in
theorem rm_le8 (l : Launch) (Z : State) (a0 : Array Value) (hw : ∀ d ∈ tables_1, d.before a0 Z = true) (ra : Addr) (u0 : Int32) (u1 : Int32) (gg : Nat → Int32) (h0 : Heap) (n0 : Nat) (Z0 : n0 ≤ h0.size) (P0 : own_AI Z h0 ra .byte (24 : Int32) gg) (hF : 0 ≤ u0.toInt) (hS : u0.toInt + u1.toInt ≤ 24) :
    own_M l Z (⟨"com/example/structlane/structlane/header/SipHashHashPinLaw", "le8", "([BII)J"⟩ : MethodName) method_4_code 5 (some .long) [] ({ frames := 0, cells := 0, slots := 0, locals := 0 } : Room) #[(.ref ra), (.int u0), (.int u1)] h0 (fun v h L => v = some (.long (own_le8 gg u0 u1)) ∧ Fr n0 L ∧ (h = h0)) 0 0 := by
  refine own_body (plainFor_of_name opn_com_example_structlane_structlane_header_SipHashHashPinLaw) ?_
  intro p e s m below meth c s1 hx hby hml hown hnm hret hlk hZ X0 e0
  rw [oef_rm_le8 m ra u0 u1]
  have N0 := Fr.nil n0
  refine own_lconst X0 hx (hb hby d3_0) (z := (0 : Int64)) (by decide) (pc' := 1) rfl ?_
  refine own_lstoreN X0 hx (hb hby d3_1) (l' := #[vR ra, vI u0, vI u1, vL (0 : Int64), vS]) rfl (pc' := 2) rfl ?_
  refine own_iloadN X0 hx (hb hby d3_2) rfl (pc' := 3) rfl ?_
  refine own_via (S' := s1.setTop (mkF m 17 #[vR ra, vI u0, vI u1, vL (if (0 : Int32) < u1 then ((0 : Int64) ||| (((gg u0.toNatClampNeg) &&& (255 : Int32)).toInt64)) else (0 : Int64)), vS] [])) (fun kk => ?_) ?_
  · by_cases c1 : (0 : Int32) < u1
    · refine own_ifF X0 hx (hb hby d3_3) (tlt c1).2.2.2 (pc' := 6) rfl ?_
      refine own_lloadN X0 hx (hb hby d3_6) rfl (pc' := 7) rfl ?_
      refine own_aloadN X0 hx (hb hby d3_7) rfl rfl (pc' := 8) rfl ?_
      refine own_iloadN X0 hx (hb hby d3_8) rfl (pc' := 9) rfl ?_
      refine own_baload X0 hx hZ e0 P0 (x := (gg u0.toNatClampNeg)) (own_id0 hF hS c1) rfl (hb hby d3_9) (pc' := 10) rfl ?_
      refine own_sipush X0 hx (hb hby d3_10) (z := (255 : Int32)) (by decide) (pc' := 13) rfl ?_
      refine own_iand X0 hx (hb hby d3_13) (pc' := 14) rfl ?_
      refine own_i2l X0 hx (hb hby d3_14) (pc' := 15) rfl ?_
      refine own_lor X0 hx (hb hby d3_15) (pc' := 16) rfl ?_
      refine own_lstoreN X0 hx (hb hby d3_16) (l' := #[vR ra, vI u0, vI u1, vL ((0 : Int64) ||| (((gg u0.toNatClampNeg) &&& (255 : Int32)).toInt64)), vS]) rfl (pc' := 17) rfl ?_
      exact own_cast (by simp only [if_pos c1]) kk
    · refine own_ifT X0 hx (hb hby d3_3) (flt c1).2.2.2 (by decide) (pc' := 17) rfl ?_
      exact own_cast (by simp only [if_neg c1]) kk
  show own_G p e below s _ _ _ (s1.setTop (mkF m 17 #[vR ra, vI u0, vI u1, vL (own_l0 gg u0 u1 (0 : Int64)), vS] []))
  generalize hr0 : (own_l0 gg u0 u1 (0 : Int64)) = r0
  refine own_iloadN X0 hx (hb hby d3_17) rfl (pc' := 18) rfl ?_
  refine own_iconst X0 hx (hb hby d3_18) (z := (1 : Int32)) rfl (pc' := 19) rfl ?_
  refine own_via (S' := s1.setTop (mkF m 38 #[vR ra, vI u0, vI u1, vL (if (1 : Int32) < u1 then (r0 ||| ((((gg (u0 + (1 : Int32)).toNatClampNeg) &&& (255 : Int32)).toInt64) <<< ((8 : Int32) &&& 0x3f).toInt64)) else r0), vS] [])) (fun kk => ?_) ?_
  · by_cases c2 : (1 : Int32) < u1
    · refine own_icmpF X0 hx (hb hby d3_19) (tlt c2).2.2.2 (pc' := 22) rfl ?_
      refine own_lloadN X0 hx (hb hby d3_22) rfl (pc' := 23) rfl ?_
      refine own_aloadN X0 hx (hb hby d3_23) rfl rfl (pc' := 24) rfl ?_
      refine own_iloadN X0 hx (hb hby d3_24) rfl (pc' := 25) rfl ?_
      refine own_iconst X0 hx (hb hby d3_25) (z := (1 : Int32)) rfl (pc' := 26) rfl ?_
      refine own_iadd X0 hx (hb hby d3_26) (pc' := 27) rfl ?_
      refine own_baload X0 hx hZ e0 P0 (x := (gg (u0 + (1 : Int32)).toNatClampNeg)) (own_idk hF hS (by decide) c2) rfl (hb hby d3_27) (pc' := 28) rfl ?_
      refine own_sipush X0 hx (hb hby d3_28) (z := (255 : Int32)) (by decide) (pc' := 31) rfl ?_
      refine own_iand X0 hx (hb hby d3_31) (pc' := 32) rfl ?_
      refine own_i2l X0 hx (hb hby d3_32) (pc' := 33) rfl ?_
      refine own_bipush X0 hx (hb hby d3_33) (z := (8 : Int32)) (by decide) (pc' := 35) rfl ?_
      refine own_lshl X0 hx (hb hby d3_35) (pc' := 36) rfl ?_
      refine own_lor X0 hx (hb hby d3_36) (pc' := 37) rfl ?_
      refine own_lstoreN X0 hx (hb hby d3_37) (l' := #[vR ra, vI u0, vI u1, vL (r0 ||| ((((gg (u0 + (1 : Int32)).toNatClampNeg) &&& (255 : Int32)).toInt64) <<< ((8 : Int32) &&& 0x3f).toInt64)), vS]) rfl (pc' := 38) rfl ?_
      exact own_cast (by simp only [if_pos c2]) kk
    · refine own_icmpT X0 hx (hb hby d3_19) (flt c2).2.2.2 (by decide) (pc' := 38) rfl ?_
      exact own_cast (by simp only [if_neg c2]) kk
  show own_G p e below s _ _ _ (s1.setTop (mkF m 38 #[vR ra, vI u0, vI u1, vL (own_lk gg u0 u1 (1 : Int32) (8 : Int32) r0), vS] []))
  generalize hr1 : (own_lk gg u0 u1 (1 : Int32) (8 : Int32) r0) = r1
  refine own_iloadN X0 hx (hb hby d3_38) rfl (pc' := 39) rfl ?_
  refine own_iconst X0 hx (hb hby d3_39) (z := (2 : Int32)) rfl (pc' := 40) rfl ?_
  refine own_via (S' := s1.setTop (mkF m 59 #[vR ra, vI u0, vI u1, vL (if (2 : Int32) < u1 then (r1 ||| ((((gg (u0 + (2 : Int32)).toNatClampNeg) &&& (255 : Int32)).toInt64) <<< ((16 : Int32) &&& 0x3f).toInt64)) else r1), vS] [])) (fun kk => ?_) ?_
  · by_cases c3 : (2 : Int32) < u1
    · refine own_icmpF X0 hx (hb hby d3_40) (tlt c3).2.2.2 (pc' := 43) rfl ?_
      refine own_lloadN X0 hx (hb hby d3_43) rfl (pc' := 44) rfl ?_
      refine own_aloadN X0 hx (hb hby d3_44) rfl rfl (pc' := 45) rfl ?_
      refine own_iloadN X0 hx (hb hby d3_45) rfl (pc' := 46) rfl ?_
      refine own_iconst X0 hx (hb hby d3_46) (z := (2 : Int32)) rfl (pc' := 47) rfl ?_
      refine own_iadd X0 hx (hb hby d3_47) (pc' := 48) rfl ?_
      refine own_baload X0 hx hZ e0 P0 (x := (gg (u0 + (2 : Int32)).toNatClampNeg)) (own_idk hF hS (by decide) c3) rfl (hb hby d3_48) (pc' := 49) rfl ?_
      refine own_sipush X0 hx (hb hby d3_49) (z := (255 : Int32)) (by decide) (pc' := 52) rfl ?_
      refine own_iand X0 hx (hb hby d3_52) (pc' := 53) rfl ?_
      refine own_i2l X0 hx (hb hby d3_53) (pc' := 54) rfl ?_
      refine own_bipush X0 hx (hb hby d3_54) (z := (16 : Int32)) (by decide) (pc' := 56) rfl ?_
      refine own_lshl X0 hx (hb hby d3_56) (pc' := 57) rfl ?_
      refine own_lor X0 hx (hb hby d3_57) (pc' := 58) rfl ?_
      refine own_lstoreN X0 hx (hb hby d3_58) (l' := #[vR ra, vI u0, vI u1, vL (r1 ||| ((((gg (u0 + (2 : Int32)).toNatClampNeg) &&& (255 : Int32)).toInt64) <<< ((16 : Int32) &&& 0x3f).toInt64)), vS]) rfl (pc' := 59) rfl ?_
      exact own_cast (by simp only [if_pos c3]) kk
    · refine own_icmpT X0 hx (hb hby d3_40) (flt c3).2.2.2 (by decide) (pc' := 59) rfl ?_
      exact own_cast (by simp only [if_neg c3]) kk
  show own_G p e below s _ _ _ (s1.setTop (mkF m 59 #[vR ra, vI u0, vI u1, vL (own_lk gg u0 u1 (2 : Int32) (16 : Int32) r1), vS] []))
  generalize hr2 : (own_lk gg u0 u1 (2 : Int32) (16 : Int32) r1) = r2
  refine own_iloadN X0 hx (hb hby d3_59) rfl (pc' := 60) rfl ?_
  refine own_iconst X0 hx (hb hby d3_60) (z := (3 : Int32)) rfl (pc' := 61) rfl ?_
  refine own_via (S' := s1.setTop (mkF m 80 #[vR ra, vI u0, vI u1, vL (if (3 : Int32) < u1 then (r2 ||| ((((gg (u0 + (3 : Int32)).toNatClampNeg) &&& (255 : Int32)).toInt64) <<< ((24 : Int32) &&& 0x3f).toInt64)) else r2), vS] [])) (fun kk => ?_) ?_
  · by_cases c4 : (3 : Int32) < u1
    · refine own_icmpF X0 hx (hb hby d3_61) (tlt c4).2.2.2 (pc' := 64) rfl ?_
      refine own_lloadN X0 hx (hb hby d3_64) rfl (pc' := 65) rfl ?_
      refine own_aloadN X0 hx (hb hby d3_65) rfl rfl (pc' := 66) rfl ?_
      refine own_iloadN X0 hx (hb hby d3_66) rfl (pc' := 67) rfl ?_
      refine own_iconst X0 hx (hb hby d3_67) (z := (3 : Int32)) rfl (pc' := 68) rfl ?_
      refine own_iadd X0 hx (hb hby d3_68) (pc' := 69) rfl ?_
      refine own_baload X0 hx hZ e0 P0 (x := (gg (u0 + (3 : Int32)).toNatClampNeg)) (own_idk hF hS (by decide) c4) rfl (hb hby d3_69) (pc' := 70) rfl ?_
      refine own_sipush X0 hx (hb hby d3_70) (z := (255 : Int32)) (by decide) (pc' := 73) rfl ?_
      refine own_iand X0 hx (hb hby d3_73) (pc' := 74) rfl ?_
      refine own_i2l X0 hx (hb hby d3_74) (pc' := 75) rfl ?_
      refine own_bipush X0 hx (hb hby d3_75) (z := (24 : Int32)) (by decide) (pc' := 77) rfl ?_
      refine own_lshl X0 hx (hb hby d3_77) (pc' := 78) rfl ?_
      refine own_lor X0 hx (hb hby d3_78) (pc' := 79) rfl ?_
      refine own_lstoreN X0 hx (hb hby d3_79) (l' := #[vR ra, vI u0, vI u1, vL (r2 ||| ((((gg (u0 + (3 : Int32)).toNatClampNeg) &&& (255 : Int32)).toInt64) <<< ((24 : Int32) &&& 0x3f).toInt64)), vS]) rfl (pc' := 80) rfl ?_
      exact own_cast (by simp only [if_pos c4]) kk
    · refine own_icmpT X0 hx (hb hby d3_61) (flt c4).2.2.2 (by decide) (pc' := 80) rfl ?_
      exact own_cast (by simp only [if_neg c4]) kk
  show own_G p e below s _ _ _ (s1.setTop (mkF m 80 #[vR ra, vI u0, vI u1, vL (own_lk gg u0 u1 (3 : Int32) (24 : Int32) r2), vS] []))
  generalize hr3 : (own_lk gg u0 u1 (3 : Int32) (24 : Int32) r2) = r3
  refine own_iloadN X0 hx (hb hby d3_80) rfl (pc' := 81) rfl ?_
  refine own_iconst X0 hx (hb hby d3_81) (z := (4 : Int32)) rfl (pc' := 82) rfl ?_
  refine own_via (S' := s1.setTop (mkF m 101 #[vR ra, vI u0, vI u1, vL (if (4 : Int32) < u1 then (r3 ||| ((((gg (u0 + (4 : Int32)).toNatClampNeg) &&& (255 : Int32)).toInt64) <<< ((32 : Int32) &&& 0x3f).toInt64)) else r3), vS] [])) (fun kk => ?_) ?_
  · by_cases c5 : (4 : Int32) < u1
    · refine own_icmpF X0 hx (hb hby d3_82) (tlt c5).2.2.2 (pc' := 85) rfl ?_
      refine own_lloadN X0 hx (hb hby d3_85) rfl (pc' := 86) rfl ?_
      refine own_aloadN X0 hx (hb hby d3_86) rfl rfl (pc' := 87) rfl ?_
      refine own_iloadN X0 hx (hb hby d3_87) rfl (pc' := 88) rfl ?_
      refine own_iconst X0 hx (hb hby d3_88) (z := (4 : Int32)) rfl (pc' := 89) rfl ?_
      refine own_iadd X0 hx (hb hby d3_89) (pc' := 90) rfl ?_
      refine own_baload X0 hx hZ e0 P0 (x := (gg (u0 + (4 : Int32)).toNatClampNeg)) (own_idk hF hS (by decide) c5) rfl (hb hby d3_90) (pc' := 91) rfl ?_
      refine own_sipush X0 hx (hb hby d3_91) (z := (255 : Int32)) (by decide) (pc' := 94) rfl ?_
      refine own_iand X0 hx (hb hby d3_94) (pc' := 95) rfl ?_
      refine own_i2l X0 hx (hb hby d3_95) (pc' := 96) rfl ?_
      refine own_bipush X0 hx (hb hby d3_96) (z := (32 : Int32)) (by decide) (pc' := 98) rfl ?_
      refine own_lshl X0 hx (hb hby d3_98) (pc' := 99) rfl ?_
      refine own_lor X0 hx (hb hby d3_99) (pc' := 100) rfl ?_
      refine own_lstoreN X0 hx (hb hby d3_100) (l' := #[vR ra, vI u0, vI u1, vL (r3 ||| ((((gg (u0 + (4 : Int32)).toNatClampNeg) &&& (255 : Int32)).toInt64) <<< ((32 : Int32) &&& 0x3f).toInt64)), vS]) rfl (pc' := 101) rfl ?_
      exact own_cast (by simp only [if_pos c5]) kk
    · refine own_icmpT X0 hx (hb hby d3_82) (flt c5).2.2.2 (by decide) (pc' := 101) rfl ?_
      exact own_cast (by simp only [if_neg c5]) kk
  show own_G p e below s _ _ _ (s1.setTop (mkF m 101 #[vR ra, vI u0, vI u1, vL (own_lk gg u0 u1 (4 : Int32) (32 : Int32) r3), vS] []))
  generalize hr4 : (own_lk gg u0 u1 (4 : Int32) (32 : Int32) r3) = r4
  refine own_iloadN X0 hx (hb hby d3_101) rfl (pc' := 102) rfl ?_
  refine own_iconst X0 hx (hb hby d3_102) (z := (5 : Int32)) rfl (pc' := 103) rfl ?_
  refine own_via (S' := s1.setTop (mkF m 122 #[vR ra, vI u0, vI u1, vL (if (5 : Int32) < u1 then (r4 ||| ((((gg (u0 + (5 : Int32)).toNatClampNeg) &&& (255 : Int32)).toInt64) <<< ((40 : Int32) &&& 0x3f).toInt64)) else r4), vS] [])) (fun kk => ?_) ?_
  · by_cases c6 : (5 : Int32) < u1
    · refine own_icmpF X0 hx (hb hby d3_103) (tlt c6).2.2.2 (pc' := 106) rfl ?_
      refine own_lloadN X0 hx (hb hby d3_106) rfl (pc' := 107) rfl ?_
      refine own_aloadN X0 hx (hb hby d3_107) rfl rfl (pc' := 108) rfl ?_
      refine own_iloadN X0 hx (hb hby d3_108) rfl (pc' := 109) rfl ?_
      refine own_iconst X0 hx (hb hby d3_109) (z := (5 : Int32)) rfl (pc' := 110) rfl ?_
      refine own_iadd X0 hx (hb hby d3_110) (pc' := 111) rfl ?_
      refine own_baload X0 hx hZ e0 P0 (x := (gg (u0 + (5 : Int32)).toNatClampNeg)) (own_idk hF hS (by decide) c6) rfl (hb hby d3_111) (pc' := 112) rfl ?_
      refine own_sipush X0 hx (hb hby d3_112) (z := (255 : Int32)) (by decide) (pc' := 115) rfl ?_
      refine own_iand X0 hx (hb hby d3_115) (pc' := 116) rfl ?_
      refine own_i2l X0 hx (hb hby d3_116) (pc' := 117) rfl ?_
      refine own_bipush X0 hx (hb hby d3_117) (z := (40 : Int32)) (by decide) (pc' := 119) rfl ?_
      refine own_lshl X0 hx (hb hby d3_119) (pc' := 120) rfl ?_
      refine own_lor X0 hx (hb hby d3_120) (pc' := 121) rfl ?_
      refine own_lstoreN X0 hx (hb hby d3_121) (l' := #[vR ra, vI u0, vI u1, vL (r4 ||| ((((gg (u0 + (5 : Int32)).toNatClampNeg) &&& (255 : Int32)).toInt64) <<< ((40 : Int32) &&& 0x3f).toInt64)), vS]) rfl (pc' := 122) rfl ?_
      exact own_cast (by simp only [if_pos c6]) kk
    · refine own_icmpT X0 hx (hb hby d3_103) (flt c6).2.2.2 (by decide) (pc' := 122) rfl ?_
      exact own_cast (by simp only [if_neg c6]) kk
  show own_G p e below s _ _ _ (s1.setTop (mkF m 122 #[vR ra, vI u0, vI u1, vL (own_lk gg u0 u1 (5 : Int32) (40 : Int32) r4), vS] []))
  generalize hr5 : (own_lk gg u0 u1 (5 : Int32) (40 : Int32) r4) = r5
  refine own_iloadN X0 hx (hb hby d3_122) rfl (pc' := 123) rfl ?_
  refine own_bipush X0 hx (hb hby d3_123) (z := (6 : Int32)) (by decide) (pc' := 125) rfl ?_
  refine own_via (S' := s1.setTop (mkF m 145 #[vR ra, vI u0, vI u1, vL (if (6 : Int32) < u1 then (r5 ||| ((((gg (u0 + (6 : Int32)).toNatClampNeg) &&& (255 : Int32)).toInt64) <<< ((48 : Int32) &&& 0x3f).toInt64)) else r5), vS] [])) (fun kk => ?_) ?_
  · by_cases c7 : (6 : Int32) < u1
    · refine own_icmpF X0 hx (hb hby d3_125) (tlt c7).2.2.2 (pc' := 128) rfl ?_
      refine own_lloadN X0 hx (hb hby d3_128) rfl (pc' := 129) rfl ?_
      refine own_aloadN X0 hx (hb hby d3_129) rfl rfl (pc' := 130) rfl ?_
      refine own_iloadN X0 hx (hb hby d3_130) rfl (pc' := 131) rfl ?_
      refine own_bipush X0 hx (hb hby d3_131) (z := (6 : Int32)) (by decide) (pc' := 133) rfl ?_
      refine own_iadd X0 hx (hb hby d3_133) (pc' := 134) rfl ?_
      refine own_baload X0 hx hZ e0 P0 (x := (gg (u0 + (6 : Int32)).toNatClampNeg)) (own_idk hF hS (by decide) c7) rfl (hb hby d3_134) (pc' := 135) rfl ?_
      refine own_sipush X0 hx (hb hby d3_135) (z := (255 : Int32)) (by decide) (pc' := 138) rfl ?_
      refine own_iand X0 hx (hb hby d3_138) (pc' := 139) rfl ?_
      refine own_i2l X0 hx (hb hby d3_139) (pc' := 140) rfl ?_
      refine own_bipush X0 hx (hb hby d3_140) (z := (48 : Int32)) (by decide) (pc' := 142) rfl ?_
      refine own_lshl X0 hx (hb hby d3_142) (pc' := 143) rfl ?_
      refine own_lor X0 hx (hb hby d3_143) (pc' := 144) rfl ?_
      refine own_lstoreN X0 hx (hb hby d3_144) (l' := #[vR ra, vI u0, vI u1, vL (r5 ||| ((((gg (u0 + (6 : Int32)).toNatClampNeg) &&& (255 : Int32)).toInt64) <<< ((48 : Int32) &&& 0x3f).toInt64)), vS]) rfl (pc' := 145) rfl ?_
      exact own_cast (by simp only [if_pos c7]) kk
    · refine own_icmpT X0 hx (hb hby d3_125) (flt c7).2.2.2 (by decide) (pc' := 145) rfl ?_
      exact own_cast (by simp only [if_neg c7]) kk
  show own_G p e below s _ _ _ (s1.setTop (mkF m 145 #[vR ra, vI u0, vI u1, vL (own_lk gg u0 u1 (6 : Int32) (48 : Int32) r5), vS] []))
  generalize hr6 : (own_lk gg u0 u1 (6 : Int32) (48 : Int32) r5) = r6
  refine own_iloadN X0 hx (hb hby d3_145) rfl (pc' := 146) rfl ?_
  refine own_bipush X0 hx (hb hby d3_146) (z := (7 : Int32)) (by decide) (pc' := 148) rfl ?_
  refine own_via (S' := s1.setTop (mkF m 168 #[vR ra, vI u0, vI u1, vL (if (7 : Int32) < u1 then (r6 ||| ((((gg (u0 + (7 : Int32)).toNatClampNeg) &&& (255 : Int32)).toInt64) <<< ((56 : Int32) &&& 0x3f).toInt64)) else r6), vS] [])) (fun kk => ?_) ?_
  · by_cases c8 : (7 : Int32) < u1
    · refine own_icmpF X0 hx (hb hby d3_148) (tlt c8).2.2.2 (pc' := 151) rfl ?_
      refine own_lloadN X0 hx (hb hby d3_151) rfl (pc' := 152) rfl ?_
      refine own_aloadN X0 hx (hb hby d3_152) rfl rfl (pc' := 153) rfl ?_
      refine own_iloadN X0 hx (hb hby d3_153) rfl (pc' := 154) rfl ?_
      refine own_bipush X0 hx (hb hby d3_154) (z := (7 : Int32)) (by decide) (pc' := 156) rfl ?_
      refine own_iadd X0 hx (hb hby d3_156) (pc' := 157) rfl ?_
      refine own_baload X0 hx hZ e0 P0 (x := (gg (u0 + (7 : Int32)).toNatClampNeg)) (own_idk hF hS (by decide) c8) rfl (hb hby d3_157) (pc' := 158) rfl ?_
      refine own_sipush X0 hx (hb hby d3_158) (z := (255 : Int32)) (by decide) (pc' := 161) rfl ?_
      refine own_iand X0 hx (hb hby d3_161) (pc' := 162) rfl ?_
      refine own_i2l X0 hx (hb hby d3_162) (pc' := 163) rfl ?_
      refine own_bipush X0 hx (hb hby d3_163) (z := (56 : Int32)) (by decide) (pc' := 165) rfl ?_
      refine own_lshl X0 hx (hb hby d3_165) (pc' := 166) rfl ?_
      refine own_lor X0 hx (hb hby d3_166) (pc' := 167) rfl ?_
      refine own_lstoreN X0 hx (hb hby d3_167) (l' := #[vR ra, vI u0, vI u1, vL (r6 ||| ((((gg (u0 + (7 : Int32)).toNatClampNeg) &&& (255 : Int32)).toInt64) <<< ((56 : Int32) &&& 0x3f).toInt64)), vS]) rfl (pc' := 168) rfl ?_
      exact own_cast (by simp only [if_pos c8]) kk
    · refine own_icmpT X0 hx (hb hby d3_148) (flt c8).2.2.2 (by decide) (pc' := 168) rfl ?_
      exact own_cast (by simp only [if_neg c8]) kk
  show own_G p e below s _ _ _ (s1.setTop (mkF m 168 #[vR ra, vI u0, vI u1, vL (own_lk gg u0 u1 (7 : Int32) (56 : Int32) r6), vS] []))
  generalize hr7 : (own_lk gg u0 u1 (7 : Int32) (56 : Int32) r6) = r7
  refine own_lloadN X0 hx (hb hby d3_168) rfl (pc' := 169) rfl ?_
  exact own_retL X0 hx hret hlk (hb hby d3_169) ⟨(by subst hr7 hr6 hr5 hr4 hr3 hr2 hr1 hr0; rfl), N0, e0⟩ (by decide) (by decide)
theorem d6_0 : decode method_5_code 0 = .ok (.lload_n 0, 1) := by decide +kernel
theorem d6_1 : decode method_5_code 1 = .ok (.iload_n 2, 1) := by decide +kernel
theorem d6_2 : decode method_5_code 2 = .ok (.lshl, 1) := by decide +kernel
theorem d6_3 : decode method_5_code 3 = .ok (.lload_n 0, 1) := by decide +kernel
theorem d6_4 : decode method_5_code 4 = .ok (.bipush 64, 2) := by decide +kernel
theorem d6_6 : decode method_5_code 6 = .ok (.iload_n 2, 1) := by decide +kernel
theorem d6_7 : decode method_5_code 7 = .ok (.isub, 1) := by decide +kernel
theorem d6_8 : decode method_5_code 8 = .ok (.lushr, 1) := by decide +kernel
theorem d6_9 : decode method_5_code 9 = .ok (.lor, 1) := by decide +kernel
theorem d6_10 : decode method_5_code 10 = .ok (.lreturn, 1) := by decide +kernel
theorem oef_rm_rotl (m : MethodId) (u0 : Int64) (u1 : Int32) : entryFrame m #[(.long u0), (.int u1)] 3 = mkF m 0 #[vL u0, vS, vI u1] [] := by first | (simp [entryFrame, mkF, argsToLocals, Value.category]; done) | rfl
set_option maxRecDepth 65536 in
set_option maxHeartbeats 40000000 in
theorem rm_rotl (l : Launch) (Z : State) (a0 : Array Value) (hw : ∀ d ∈ tables_1, d.before a0 Z = true) (u0 : Int64) (u1 : Int32) (h0 : Heap) (n0 : Nat) (Z0 : n0 ≤ h0.size)  :
    own_M l Z (⟨"com/example/structlane/structlane/header/SipHashHashPinLaw", "rotl", "(JI)J"⟩ : MethodName) method_5_code 3 (some .long) [] ({ frames := 0, cells := 0, slots := 0, locals := 0 } : Room) #[(.long u0), (.int u1)] h0 (fun v h L => v = some (.long (own_rot u0 u1)) ∧ Fr n0 L ∧ (h = h0)) 0 0 := by
  refine own_body (plainFor_of_name opn_com_example_structlane_structlane_header_SipHashHashPinLaw) ?_
  intro p e s m below meth c s1 hx hby hml hown hnm hret hlk hZ X0 e0
  rw [oef_rm_rotl m u0 u1]
  have N0 := Fr.nil n0
  refine own_lloadN X0 hx (hb hby d6_0) rfl (pc' := 1) rfl ?_
  refine own_iloadN X0 hx (hb hby d6_1) rfl (pc' := 2) rfl ?_
  refine own_lshl X0 hx (hb hby d6_2) (pc' := 3) rfl ?_
  refine own_lloadN X0 hx (hb hby d6_3) rfl (pc' := 4) rfl ?_
  refine own_bipush X0 hx (hb hby d6_4) (z := (64 : Int32)) (by decide) (pc' := 6) rfl ?_
  refine own_iloadN X0 hx (hb hby d6_6) rfl (pc' := 7) rfl ?_
  refine own_isub X0 hx (hb hby d6_7) (pc' := 8) rfl ?_
  refine own_lushr X0 hx (hb hby d6_8) (pc' := 9) rfl ?_
  refine own_lor X0 hx (hb hby d6_9) (pc' := 10) rfl ?_
  exact own_retL X0 hx hret hlk (hb hby d6_10) ⟨rfl, N0, e0⟩ (by decide) (by decide)
theorem d5_0 : decode method_6_code 0 = .ok (.aload_n 0, 1) := by decide +kernel
theorem d5_1 : decode method_6_code 1 = .ok (.iconst 0, 1) := by decide +kernel
theorem d5_2 : decode method_6_code 2 = .ok (.dup2, 1) := by decide +kernel
theorem d5_3 : decode method_6_code 3 = .ok (.laload, 1) := by decide +kernel
theorem d5_4 : decode method_6_code 4 = .ok (.aload_n 0, 1) := by decide +kernel
theorem d5_5 : decode method_6_code 5 = .ok (.iconst 1, 1) := by decide +kernel
theorem d5_6 : decode method_6_code 6 = .ok (.laload, 1) := by decide +kernel
theorem d5_7 : decode method_6_code 7 = .ok (.ladd, 1) := by decide +kernel
theorem d5_8 : decode method_6_code 8 = .ok (.lastore, 1) := by decide +kernel
theorem d5_9 : decode method_6_code 9 = .ok (.aload_n 0, 1) := by decide +kernel
theorem d5_10 : decode method_6_code 10 = .ok (.iconst 1, 1) := by decide +kernel
theorem d5_11 : decode method_6_code 11 = .ok (.aload_n 0, 1) := by decide +kernel
theorem d5_12 : decode method_6_code 12 = .ok (.iconst 1, 1) := by decide +kernel
theorem d5_13 : decode method_6_code 13 = .ok (.laload, 1) := by decide +kernel
theorem d5_14 : decode method_6_code 14 = .ok (.bipush 13, 2) := by decide +kernel
theorem d5_16 : decode method_6_code 16 = .ok (.invokestatic 49, 3) := by decide +kernel
theorem ow_23 {Z : State} {a0 : Array Value} (hw : ∀ d ∈ tables_1, d.before a0 Z = true) : (Jvm.Cond.methodLink "com/example/structlane/structlane/header/SipHashHashPinLaw" (49 : Nat) ({ cls := "com/example/structlane/structlane/header/SipHashHashPinLaw", name := "rotl", desc := "(JI)J" } : Jvm.MethodName)).before a0 Z = true := hw _ (List.mem_of_getElem? (i := 23) rfl)
theorem opd__JI_J : parseMethodDescriptor "(JI)J" = some ⟨[.long, .int], some .long⟩ := by decide +kernel
theorem ow_24 {Z : State} {a0 : Array Value} (hw : ∀ d ∈ tables_1, d.before a0 Z = true) : (Jvm.Cond.static ({ cls := "com/example/structlane/structlane/header/SipHashHashPinLaw", name := "rotl", desc := "(JI)J" } : Jvm.MethodName)).before a0 Z = true := hw _ (List.mem_of_getElem? (i := 24) rfl)
theorem ow_7 {Z : State} {a0 : Array Value} (hw : ∀ d ∈ tables_1, d.before a0 Z = true) : (Jvm.Cond.initialized "com/example/structlane/structlane/header/SipHashHashPinLaw").before a0 Z = true := hw _ (List.mem_of_getElem? (i := 7) rfl)
theorem ow_25 {Z : State} {a0 : Array Value} (hw : ∀ d ∈ tables_1, d.before a0 Z = true) : (Jvm.Cond.code ({ cls := "com/example/structlane/structlane/header/SipHashHashPinLaw", name := "rotl", desc := "(JI)J" } : Jvm.MethodName) method_5_code (3 : Nat) (Option.some Jvm.ClassFile.FieldType.long)).before a0 Z = true := hw _ (List.mem_of_getElem? (i := 25) rfl)
theorem d5_19 : decode method_6_code 19 = .ok (.lastore, 1) := by decide +kernel
theorem d5_20 : decode method_6_code 20 = .ok (.aload_n 0, 1) := by decide +kernel
theorem d5_21 : decode method_6_code 21 = .ok (.iconst 1, 1) := by decide +kernel
theorem d5_22 : decode method_6_code 22 = .ok (.dup2, 1) := by decide +kernel
theorem d5_23 : decode method_6_code 23 = .ok (.laload, 1) := by decide +kernel
theorem d5_24 : decode method_6_code 24 = .ok (.aload_n 0, 1) := by decide +kernel
theorem d5_25 : decode method_6_code 25 = .ok (.iconst 0, 1) := by decide +kernel
theorem d5_26 : decode method_6_code 26 = .ok (.laload, 1) := by decide +kernel
theorem d5_27 : decode method_6_code 27 = .ok (.lxor, 1) := by decide +kernel
theorem d5_28 : decode method_6_code 28 = .ok (.lastore, 1) := by decide +kernel
theorem d5_29 : decode method_6_code 29 = .ok (.aload_n 0, 1) := by decide +kernel
theorem d5_30 : decode method_6_code 30 = .ok (.iconst 0, 1) := by decide +kernel
theorem d5_31 : decode method_6_code 31 = .ok (.aload_n 0, 1) := by decide +kernel
theorem d5_32 : decode method_6_code 32 = .ok (.iconst 0, 1) := by decide +kernel
theorem d5_33 : decode method_6_code 33 = .ok (.laload, 1) := by decide +kernel
theorem d5_34 : decode method_6_code 34 = .ok (.bipush 32, 2) := by decide +kernel
theorem d5_36 : decode method_6_code 36 = .ok (.invokestatic 49, 3) := by decide +kernel
theorem d5_39 : decode method_6_code 39 = .ok (.lastore, 1) := by decide +kernel
theorem d5_40 : decode method_6_code 40 = .ok (.aload_n 0, 1) := by decide +kernel
theorem d5_41 : decode method_6_code 41 = .ok (.iconst 2, 1) := by decide +kernel
theorem d5_42 : decode method_6_code 42 = .ok (.dup2, 1) := by decide +kernel
theorem d5_43 : decode method_6_code 43 = .ok (.laload, 1) := by decide +kernel
theorem d5_44 : decode method_6_code 44 = .ok (.aload_n 0, 1) := by decide +kernel
theorem d5_45 : decode method_6_code 45 = .ok (.iconst 3, 1) := by decide +kernel
theorem d5_46 : decode method_6_code 46 = .ok (.laload, 1) := by decide +kernel
theorem d5_47 : decode method_6_code 47 = .ok (.ladd, 1) := by decide +kernel
theorem d5_48 : decode method_6_code 48 = .ok (.lastore, 1) := by decide +kernel
theorem d5_49 : decode method_6_code 49 = .ok (.aload_n 0, 1) := by decide +kernel
theorem d5_50 : decode method_6_code 50 = .ok (.iconst 3, 1) := by decide +kernel
theorem d5_51 : decode method_6_code 51 = .ok (.aload_n 0, 1) := by decide +kernel
theorem d5_52 : decode method_6_code 52 = .ok (.iconst 3, 1) := by decide +kernel
theorem d5_53 : decode method_6_code 53 = .ok (.laload, 1) := by decide +kernel
theorem d5_54 : decode method_6_code 54 = .ok (.bipush 16, 2) := by decide +kernel
theorem d5_56 : decode method_6_code 56 = .ok (.invokestatic 49, 3) := by decide +kernel
theorem d5_59 : decode method_6_code 59 = .ok (.lastore, 1) := by decide +kernel
theorem d5_60 : decode method_6_code 60 = .ok (.aload_n 0, 1) := by decide +kernel
theorem d5_61 : decode method_6_code 61 = .ok (.iconst 3, 1) := by decide +kernel
theorem d5_62 : decode method_6_code 62 = .ok (.dup2, 1) := by decide +kernel
theorem d5_63 : decode method_6_code 63 = .ok (.laload, 1) := by decide +kernel
theorem d5_64 : decode method_6_code 64 = .ok (.aload_n 0, 1) := by decide +kernel
theorem d5_65 : decode method_6_code 65 = .ok (.iconst 2, 1) := by decide +kernel
theorem d5_66 : decode method_6_code 66 = .ok (.laload, 1) := by decide +kernel
theorem d5_67 : decode method_6_code 67 = .ok (.lxor, 1) := by decide +kernel
theorem d5_68 : decode method_6_code 68 = .ok (.lastore, 1) := by decide +kernel
theorem d5_69 : decode method_6_code 69 = .ok (.aload_n 0, 1) := by decide +kernel
theorem d5_70 : decode method_6_code 70 = .ok (.iconst 0, 1) := by decide +kernel
theorem d5_71 : decode method_6_code 71 = .ok (.dup2, 1) := by decide +kernel
theorem d5_72 : decode method_6_code 72 = .ok (.laload, 1) := by decide +kernel
theorem d5_73 : decode method_6_code 73 = .ok (.aload_n 0, 1) := by decide +kernel
theorem d5_74 : decode method_6_code 74 = .ok (.iconst 3, 1) := by decide +kernel
theorem d5_75 : decode method_6_code 75 = .ok (.laload, 1) := by decide +kernel
theorem d5_76 : decode method_6_code 76 = .ok (.ladd, 1) := by decide +kernel
theorem d5_77 : decode method_6_code 77 = .ok (.lastore, 1) := by decide +kernel
theorem d5_78 : decode method_6_code 78 = .ok (.aload_n 0, 1) := by decide +kernel
theorem d5_79 : decode method_6_code 79 = .ok (.iconst 3, 1) := by decide +kernel
theorem d5_80 : decode method_6_code 80 = .ok (.aload_n 0, 1) := by decide +kernel
theorem d5_81 : decode method_6_code 81 = .ok (.iconst 3, 1) := by decide +kernel
theorem d5_82 : decode method_6_code 82 = .ok (.laload, 1) := by decide +kernel
theorem d5_83 : decode method_6_code 83 = .ok (.bipush 21, 2) := by decide +kernel
theorem d5_85 : decode method_6_code 85 = .ok (.invokestatic 49, 3) := by decide +kernel
theorem d5_88 : decode method_6_code 88 = .ok (.lastore, 1) := by decide +kernel
theorem d5_89 : decode method_6_code 89 = .ok (.aload_n 0, 1) := by decide +kernel
theorem d5_90 : decode method_6_code 90 = .ok (.iconst 3, 1) := by decide +kernel
theorem d5_91 : decode method_6_code 91 = .ok (.dup2, 1) := by decide +kernel
theorem d5_92 : decode method_6_code 92 = .ok (.laload, 1) := by decide +kernel
theorem d5_93 : decode method_6_code 93 = .ok (.aload_n 0, 1) := by decide +kernel
theorem d5_94 : decode method_6_code 94 = .ok (.iconst 0, 1) := by decide +kernel
theorem d5_95 : decode method_6_code 95 = .ok (.laload, 1) := by decide +kernel
theorem d5_96 : decode method_6_code 96 = .ok (.lxor, 1) := by decide +kernel
theorem d5_97 : decode method_6_code 97 = .ok (.lastore, 1) := by decide +kernel
theorem d5_98 : decode method_6_code 98 = .ok (.aload_n 0, 1) := by decide +kernel
theorem d5_99 : decode method_6_code 99 = .ok (.iconst 2, 1) := by decide +kernel
theorem d5_100 : decode method_6_code 100 = .ok (.dup2, 1) := by decide +kernel
theorem d5_101 : decode method_6_code 101 = .ok (.laload, 1) := by decide +kernel
theorem d5_102 : decode method_6_code 102 = .ok (.aload_n 0, 1) := by decide +kernel
theorem d5_103 : decode method_6_code 103 = .ok (.iconst 1, 1) := by decide +kernel
theorem d5_104 : decode method_6_code 104 = .ok (.laload, 1) := by decide +kernel
theorem d5_105 : decode method_6_code 105 = .ok (.ladd, 1) := by decide +kernel
theorem d5_106 : decode method_6_code 106 = .ok (.lastore, 1) := by decide +kernel
theorem d5_107 : decode method_6_code 107 = .ok (.aload_n 0, 1) := by decide +kernel
theorem d5_108 : decode method_6_code 108 = .ok (.iconst 1, 1) := by decide +kernel
theorem d5_109 : decode method_6_code 109 = .ok (.aload_n 0, 1) := by decide +kernel
theorem d5_110 : decode method_6_code 110 = .ok (.iconst 1, 1) := by decide +kernel
theorem d5_111 : decode method_6_code 111 = .ok (.laload, 1) := by decide +kernel
theorem d5_112 : decode method_6_code 112 = .ok (.bipush 17, 2) := by decide +kernel
theorem d5_114 : decode method_6_code 114 = .ok (.invokestatic 49, 3) := by decide +kernel
theorem d5_117 : decode method_6_code 117 = .ok (.lastore, 1) := by decide +kernel
theorem d5_118 : decode method_6_code 118 = .ok (.aload_n 0, 1) := by decide +kernel
theorem d5_119 : decode method_6_code 119 = .ok (.iconst 1, 1) := by decide +kernel
theorem d5_120 : decode method_6_code 120 = .ok (.dup2, 1) := by decide +kernel
theorem d5_121 : decode method_6_code 121 = .ok (.laload, 1) := by decide +kernel
theorem d5_122 : decode method_6_code 122 = .ok (.aload_n 0, 1) := by decide +kernel
theorem d5_123 : decode method_6_code 123 = .ok (.iconst 2, 1) := by decide +kernel
theorem d5_124 : decode method_6_code 124 = .ok (.laload, 1) := by decide +kernel
theorem d5_125 : decode method_6_code 125 = .ok (.lxor, 1) := by decide +kernel
theorem d5_126 : decode method_6_code 126 = .ok (.lastore, 1) := by decide +kernel
theorem d5_127 : decode method_6_code 127 = .ok (.aload_n 0, 1) := by decide +kernel
theorem d5_128 : decode method_6_code 128 = .ok (.iconst 2, 1) := by decide +kernel
theorem d5_129 : decode method_6_code 129 = .ok (.aload_n 0, 1) := by decide +kernel
theorem d5_130 : decode method_6_code 130 = .ok (.iconst 2, 1) := by decide +kernel
theorem d5_131 : decode method_6_code 131 = .ok (.laload, 1) := by decide +kernel
theorem d5_132 : decode method_6_code 132 = .ok (.bipush 32, 2) := by decide +kernel
theorem d5_134 : decode method_6_code 134 = .ok (.invokestatic 49, 3) := by decide +kernel
theorem d5_137 : decode method_6_code 137 = .ok (.lastore, 1) := by decide +kernel
theorem d5_138 : decode method_6_code 138 = .ok (.return_, 1) := by decide +kernel
theorem oef_rm_round (m : MethodId) (ra : Addr) : entryFrame m #[(.ref ra)] 1 = mkF m 0 #[vR ra] [] := by first | (simp [entryFrame, mkF, argsToLocals, Value.category]; done) | rfl
set_option maxRecDepth 65536 in
set_option maxHeartbeats 40000000 in
theorem rm_round (l : Launch) (Z : State) (a0 : Array Value) (hw : ∀ d ∈ tables_1, d.before a0 Z = true) (ra : Addr) (tt : own_S) (h0 : Heap) (n0 : Nat) (Z0 : n0 ≤ h0.size) (P0 : own_AJ Z h0 ra .long (4 : Int32) (own_LJ [tt.1, tt.2.1, tt.2.2.1, tt.2.2.2])) (g_ra : n0 ≤ ra) :
    own_M l Z (⟨"com/example/structlane/structlane/header/SipHashHashPinLaw", "round", "([J)V"⟩ : MethodName) method_6_code 1 none [] ({ frames := 1, cells := 0, slots := 0, locals := 16 } : Room) #[(.ref ra)] h0 (fun v h L => v = none ∧ Fr n0 L ∧ (Keep h0 h [ra]) ∧ (own_AJ Z h ra .long (4 : Int32) (own_LJ [(own_round tt).1, (own_round tt).2.1, (own_round tt).2.2.1, (own_round tt).2.2.2]))) 0 0 := by
  refine own_body (plainFor_of_name opn_com_example_structlane_structlane_header_SipHashHashPinLaw) ?_
  intro p e s m below meth c s1 hx hby hml hown hnm hret hlk hZ X0 e0
  rw [oef_rm_round m ra]
  have N0 := Fr.nil n0
  refine own_aloadN X0 hx (hb hby d5_0) rfl rfl (pc' := 1) rfl ?_
  refine own_iconst X0 hx (hb hby d5_1) (z := (0 : Int32)) rfl (pc' := 2) rfl ?_
  refine own_dup2 X0 hx (hb hby d5_2) rfl rfl (pc' := 3) rfl ?_
  refine own_laload X0 hx hZ e0 P0 (x := tt.1) (by decide) rfl (hb hby d5_3) (pc' := 4) rfl ?_
  refine own_aloadN X0 hx (hb hby d5_4) rfl rfl (pc' := 5) rfl ?_
  refine own_iconst X0 hx (hb hby d5_5) (z := (1 : Int32)) rfl (pc' := 6) rfl ?_
  refine own_laload X0 hx hZ e0 P0 (x := tt.2.1) (by decide) rfl (hb hby d5_6) (pc' := 7) rfl ?_
  refine own_ladd X0 hx (hb hby d5_7) (pc' := 8) rfl ?_
  refine own_lastore X0 hx hZ e0 (g' := (own_LJ [(tt.1 + tt.2.1), tt.2.1, tt.2.2.1, tt.2.2.2])) P0 (x' := (tt.1 + tt.2.1)) (by decide) rfl (fun i _ => own_LJ_set [tt.1, tt.2.1, tt.2.2.1, tt.2.2.2] 0 (tt.1 + tt.2.1) (by simp) i) (hb hby d5_8) (pc' := 9) rfl ?_
  intro T1 h1 X1 e1 W1 A1
  have N1 := Fr.snoc X1 N0 g_ra
  refine own_aloadN X1 hx (hb hby d5_9) rfl rfl (pc' := 10) rfl ?_
  refine own_iconst X1 hx (hb hby d5_10) (z := (1 : Int32)) rfl (pc' := 11) rfl ?_
  refine own_aloadN X1 hx (hb hby d5_11) rfl rfl (pc' := 12) rfl ?_
  refine own_iconst X1 hx (hb hby d5_12) (z := (1 : Int32)) rfl (pc' := 13) rfl ?_
  refine own_laload X1 hx hZ e1 A1 (x := tt.2.1) (by decide) rfl (hb hby d5_13) (pc' := 14) rfl ?_
  refine own_bipush X1 hx (hb hby d5_14) (z := (13 : Int32)) (by decide) (pc' := 16) rfl ?_
  have z3 : n0 ≤ h1.size := (Nat.le_trans Z0 (Nat.le_of_eq (Wr.size W1).symm))
  refine own_callS X1 hx hZ hown (ow_23 hw) (ow_24 hw) (ow_7 hw) (ow_25 hw) (by decide) (rm_rotl l Z a0 hw tt.2.1 (13 : Int32) h1 n0 z3) e1 (W := 2) (by decide) (by decide) opd__JI_J rfl (rest := [(.int (1 : Int32)), (.ref ra)]) rfl (hb hby d5_16) (Nat.le_of_eq rfl) (by rw [hml]; rfl) (by decide) (by decide) (pc' := 19) rfl ?_
  intro v2 T2 L2 X2 q2
  obtain ⟨rfl, Nq2, eh2⟩ := q2
  have N2 := Fr.app N1 Nq2
  show own_G p e below s _ _ _ (T2.setTop (mkF m 19 #[vR ra] [(.long (own_rot tt.2.1 (13 : Int32))), (.int (1 : Int32)), (.ref ra)]))
  refine own_lastore X2 hx hZ eh2 (g' := (own_LJ [(tt.1 + tt.2.1), (own_rot tt.2.1 (13 : Int32)), tt.2.2.1, tt.2.2.2])) A1 (x' := (own_rot tt.2.1 (13 : Int32))) (by decide) rfl (fun i _ => own_LJ_set [(tt.1 + tt.2.1), tt.2.1, tt.2.2.1, tt.2.2.2] 1 (own_rot tt.2.1 (13 : Int32)) (by simp) i) (hb hby d5_19) (pc' := 20) rfl ?_
  intro T4 h4 X4 e4 W4 A4
  have N4 := Fr.snoc X4 N2 g_ra
  refine own_aloadN X4 hx (hb hby d5_20) rfl rfl (pc' := 21) rfl ?_
  refine own_iconst X4 hx (hb hby d5_21) (z := (1 : Int32)) rfl (pc' := 22) rfl ?_
  refine own_dup2 X4 hx (hb hby d5_22) rfl rfl (pc' := 23) rfl ?_
  refine own_laload X4 hx hZ e4 A4 (x := (own_rot tt.2.1 (13 : Int32))) (by decide) rfl (hb hby d5_23) (pc' := 24) rfl ?_
  refine own_aloadN X4 hx (hb hby d5_24) rfl rfl (pc' := 25) rfl ?_
  refine own_iconst X4 hx (hb hby d5_25) (z := (0 : Int32)) rfl (pc' := 26) rfl ?_
  refine own_laload X4 hx hZ e4 A4 (x := (tt.1 + tt.2.1)) (by decide) rfl (hb hby d5_26) (pc' := 27) rfl ?_
  refine own_lxor X4 hx (hb hby d5_27) (pc' := 28) rfl ?_
  refine own_lastore X4 hx hZ e4 (g' := (own_LJ [(tt.1 + tt.2.1), ((own_rot tt.2.1 (13 : Int32)) ^^^ (tt.1 + tt.2.1)), tt.2.2.1, tt.2.2.2])) A4 (x' := ((own_rot tt.2.1 (13 : Int32)) ^^^ (tt.1 + tt.2.1))) (by decide) rfl (fun i _ => own_LJ_set [(tt.1 + tt.2.1), (own_rot tt.2.1 (13 : Int32)), tt.2.2.1, tt.2.2.2] 1 ((own_rot tt.2.1 (13 : Int32)) ^^^ (tt.1 + tt.2.1)) (by simp) i) (hb hby d5_28) (pc' := 29) rfl ?_
  intro T5 h5 X5 e5 W5 A5
  have N5 := Fr.snoc X5 N4 g_ra
  refine own_aloadN X5 hx (hb hby d5_29) rfl rfl (pc' := 30) rfl ?_
  refine own_iconst X5 hx (hb hby d5_30) (z := (0 : Int32)) rfl (pc' := 31) rfl ?_
  refine own_aloadN X5 hx (hb hby d5_31) rfl rfl (pc' := 32) rfl ?_
  refine own_iconst X5 hx (hb hby d5_32) (z := (0 : Int32)) rfl (pc' := 33) rfl ?_
  refine own_laload X5 hx hZ e5 A5 (x := (tt.1 + tt.2.1)) (by decide) rfl (hb hby d5_33) (pc' := 34) rfl ?_
  refine own_bipush X5 hx (hb hby d5_34) (z := (32 : Int32)) (by decide) (pc' := 36) rfl ?_
  have z7 : n0 ≤ h5.size := (Nat.le_trans (Nat.le_trans z3 (Nat.le_of_eq (Wr.size W4).symm)) (Nat.le_of_eq (Wr.size W5).symm))
  refine own_callS X5 hx hZ hown (ow_23 hw) (ow_24 hw) (ow_7 hw) (ow_25 hw) (by decide) (rm_rotl l Z a0 hw (tt.1 + tt.2.1) (32 : Int32) h5 n0 z7) e5 (W := 2) (by decide) (by decide) opd__JI_J rfl (rest := [(.int (0 : Int32)), (.ref ra)]) rfl (hb hby d5_36) (Nat.le_of_eq rfl) (by rw [hml]; rfl) (by decide) (by decide) (pc' := 39) rfl ?_
  intro v6 T6 L6 X6 q6
  obtain ⟨rfl, Nq6, eh6⟩ := q6
  have N6 := Fr.app N5 Nq6
  show own_G p e below s _ _ _ (T6.setTop (mkF m 39 #[vR ra] [(.long (own_rot (tt.1 + tt.2.1) (32 : Int32))), (.int (0 : Int32)), (.ref ra)]))
  refine own_lastore X6 hx hZ eh6 (g' := (own_LJ [(own_rot (tt.1 + tt.2.1) (32 : Int32)), ((own_rot tt.2.1 (13 : Int32)) ^^^ (tt.1 + tt.2.1)), tt.2.2.1, tt.2.2.2])) A5 (x' := (own_rot (tt.1 + tt.2.1) (32 : Int32))) (by decide) rfl (fun i _ => own_LJ_set [(tt.1 + tt.2.1), ((own_rot tt.2.1 (13 : Int32)) ^^^ (tt.1 + tt.2.1)), tt.2.2.1, tt.2.2.2] 0 (own_rot (tt.1 + tt.2.1) (32 : Int32)) (by simp) i) (hb hby d5_39) (pc' := 40) rfl ?_
  intro T8 h8 X8 e8 W8 A8
  have N8 := Fr.snoc X8 N6 g_ra
  refine own_aloadN X8 hx (hb hby d5_40) rfl rfl (pc' := 41) rfl ?_
  refine own_iconst X8 hx (hb hby d5_41) (z := (2 : Int32)) rfl (pc' := 42) rfl ?_
  refine own_dup2 X8 hx (hb hby d5_42) rfl rfl (pc' := 43) rfl ?_
  refine own_laload X8 hx hZ e8 A8 (x := tt.2.2.1) (by decide) rfl (hb hby d5_43) (pc' := 44) rfl ?_
  refine own_aloadN X8 hx (hb hby d5_44) rfl rfl (pc' := 45) rfl ?_
  refine own_iconst X8 hx (hb hby d5_45) (z := (3 : Int32)) rfl (pc' := 46) rfl ?_
  refine own_laload X8 hx hZ e8 A8 (x := tt.2.2.2) (by decide) rfl (hb hby d5_46) (pc' := 47) rfl ?_
  refine own_ladd X8 hx (hb hby d5_47) (pc' := 48) rfl ?_
  refine own_lastore X8 hx hZ e8 (g' := (own_LJ [(own_rot (tt.1 + tt.2.1) (32 : Int32)), ((own_rot tt.2.1 (13 : Int32)) ^^^ (tt.1 + tt.2.1)), (tt.2.2.1 + tt.2.2.2), tt.2.2.2])) A8 (x' := (tt.2.2.1 + tt.2.2.2)) (by decide) rfl (fun i _ => own_LJ_set [(own_rot (tt.1 + tt.2.1) (32 : Int32)), ((own_rot tt.2.1 (13 : Int32)) ^^^ (tt.1 + tt.2.1)), tt.2.2.1, tt.2.2.2] 2 (tt.2.2.1 + tt.2.2.2) (by simp) i) (hb hby d5_48) (pc' := 49) rfl ?_
  intro T9 h9 X9 e9 W9 A9
  have N9 := Fr.snoc X9 N8 g_ra
  refine own_aloadN X9 hx (hb hby d5_49) rfl rfl (pc' := 50) rfl ?_
  refine own_iconst X9 hx (hb hby d5_50) (z := (3 : Int32)) rfl (pc' := 51) rfl ?_
  refine own_aloadN X9 hx (hb hby d5_51) rfl rfl (pc' := 52) rfl ?_
  refine own_iconst X9 hx (hb hby d5_52) (z := (3 : Int32)) rfl (pc' := 53) rfl ?_
  refine own_laload X9 hx hZ e9 A9 (x := tt.2.2.2) (by decide) rfl (hb hby d5_53) (pc' := 54) rfl ?_
  refine own_bipush X9 hx (hb hby d5_54) (z := (16 : Int32)) (by decide) (pc' := 56) rfl ?_
  have z11 : n0 ≤ h9.size := (Nat.le_trans (Nat.le_trans z7 (Nat.le_of_eq (Wr.size W8).symm)) (Nat.le_of_eq (Wr.size W9).symm))
  refine own_callS X9 hx hZ hown (ow_23 hw) (ow_24 hw) (ow_7 hw) (ow_25 hw) (by decide) (rm_rotl l Z a0 hw tt.2.2.2 (16 : Int32) h9 n0 z11) e9 (W := 2) (by decide) (by decide) opd__JI_J rfl (rest := [(.int (3 : Int32)), (.ref ra)]) rfl (hb hby d5_56) (Nat.le_of_eq rfl) (by rw [hml]; rfl) (by decide) (by decide) (pc' := 59) rfl ?_
  intro v10 T10 L10 X10 q10
  obtain ⟨rfl, Nq10, eh10⟩ := q10
  have N10 := Fr.app N9 Nq10
  show own_G p e below s _ _ _ (T10.setTop (mkF m 59 #[vR ra] [(.long (own_rot tt.2.2.2 (16 : Int32))), (.int (3 : Int32)), (.ref ra)]))
  refine own_lastore X10 hx hZ eh10 (g' := (own_LJ [(own_rot (tt.1 + tt.2.1) (32 : Int32)), ((own_rot tt.2.1 (13 : Int32)) ^^^ (tt.1 + tt.2.1)), (tt.2.2.1 + tt.2.2.2), (own_rot tt.2.2.2 (16 : Int32))])) A9 (x' := (own_rot tt.2.2.2 (16 : Int32))) (by decide) rfl (fun i _ => own_LJ_set [(own_rot (tt.1 + tt.2.1) (32 : Int32)), ((own_rot tt.2.1 (13 : Int32)) ^^^ (tt.1 + tt.2.1)), (tt.2.2.1 + tt.2.2.2), tt.2.2.2] 3 (own_rot tt.2.2.2 (16 : Int32)) (by simp) i) (hb hby d5_59) (pc' := 60) rfl ?_
  intro T12 h12 X12 e12 W12 A12
  have N12 := Fr.snoc X12 N10 g_ra
  refine own_aloadN X12 hx (hb hby d5_60) rfl rfl (pc' := 61) rfl ?_
  refine own_iconst X12 hx (hb hby d5_61) (z := (3 : Int32)) rfl (pc' := 62) rfl ?_
  refine own_dup2 X12 hx (hb hby d5_62) rfl rfl (pc' := 63) rfl ?_
  refine own_laload X12 hx hZ e12 A12 (x := (own_rot tt.2.2.2 (16 : Int32))) (by decide) rfl (hb hby d5_63) (pc' := 64) rfl ?_
  refine own_aloadN X12 hx (hb hby d5_64) rfl rfl (pc' := 65) rfl ?_
  refine own_iconst X12 hx (hb hby d5_65) (z := (2 : Int32)) rfl (pc' := 66) rfl ?_
  refine own_laload X12 hx hZ e12 A12 (x := (tt.2.2.1 + tt.2.2.2)) (by decide) rfl (hb hby d5_66) (pc' := 67) rfl ?_
  refine own_lxor X12 hx (hb hby d5_67) (pc' := 68) rfl ?_
  refine own_lastore X12 hx hZ e12 (g' := (own_LJ [(own_rot (tt.1 + tt.2.1) (32 : Int32)), ((own_rot tt.2.1 (13 : Int32)) ^^^ (tt.1 + tt.2.1)), (tt.2.2.1 + tt.2.2.2), ((own_rot tt.2.2.2 (16 : Int32)) ^^^ (tt.2.2.1 + tt.2.2.2))])) A12 (x' := ((own_rot tt.2.2.2 (16 : Int32)) ^^^ (tt.2.2.1 + tt.2.2.2))) (by decide) rfl (fun i _ => own_LJ_set [(own_rot (tt.1 + tt.2.1) (32 : Int32)), ((own_rot tt.2.1 (13 : Int32)) ^^^ (tt.1 + tt.2.1)), (tt.2.2.1 + tt.2.2.2), (own_rot tt.2.2.2 (16 : Int32))] 3 ((own_rot tt.2.2.2 (16 : Int32)) ^^^ (tt.2.2.1 + tt.2.2.2)) (by simp) i) (hb hby d5_68) (pc' := 69) rfl ?_
  intro T13 h13 X13 e13 W13 A13
  have N13 := Fr.snoc X13 N12 g_ra
  refine own_aloadN X13 hx (hb hby d5_69) rfl rfl (pc' := 70) rfl ?_
  refine own_iconst X13 hx (hb hby d5_70) (z := (0 : Int32)) rfl (pc' := 71) rfl ?_
  refine own_dup2 X13 hx (hb hby d5_71) rfl rfl (pc' := 72) rfl ?_
  refine own_laload X13 hx hZ e13 A13 (x := (own_rot (tt.1 + tt.2.1) (32 : Int32))) (by decide) rfl (hb hby d5_72) (pc' := 73) rfl ?_
  refine own_aloadN X13 hx (hb hby d5_73) rfl rfl (pc' := 74) rfl ?_
  refine own_iconst X13 hx (hb hby d5_74) (z := (3 : Int32)) rfl (pc' := 75) rfl ?_
  refine own_laload X13 hx hZ e13 A13 (x := ((own_rot tt.2.2.2 (16 : Int32)) ^^^ (tt.2.2.1 + tt.2.2.2))) (by decide) rfl (hb hby d5_75) (pc' := 76) rfl ?_
  refine own_ladd X13 hx (hb hby d5_76) (pc' := 77) rfl ?_
  refine own_lastore X13 hx hZ e13 (g' := (own_LJ [((own_rot (tt.1 + tt.2.1) (32 : Int32)) + ((own_rot tt.2.2.2 (16 : Int32)) ^^^ (tt.2.2.1 + tt.2.2.2))), ((own_rot tt.2.1 (13 : Int32)) ^^^ (tt.1 + tt.2.1)), (tt.2.2.1 + tt.2.2.2), ((own_rot tt.2.2.2 (16 : Int32)) ^^^ (tt.2.2.1 + tt.2.2.2))])) A13 (x' := ((own_rot (tt.1 + tt.2.1) (32 : Int32)) + ((own_rot tt.2.2.2 (16 : Int32)) ^^^ (tt.2.2.1 + tt.2.2.2)))) (by decide) rfl (fun i _ => own_LJ_set [(own_rot (tt.1 + tt.2.1) (32 : Int32)), ((own_rot tt.2.1 (13 : Int32)) ^^^ (tt.1 + tt.2.1)), (tt.2.2.1 + tt.2.2.2), ((own_rot tt.2.2.2 (16 : Int32)) ^^^ (tt.2.2.1 + tt.2.2.2))] 0 ((own_rot (tt.1 + tt.2.1) (32 : Int32)) + ((own_rot tt.2.2.2 (16 : Int32)) ^^^ (tt.2.2.1 + tt.2.2.2))) (by simp) i) (hb hby d5_77) (pc' := 78) rfl ?_
  intro T14 h14 X14 e14 W14 A14
  have N14 := Fr.snoc X14 N13 g_ra
  refine own_aloadN X14 hx (hb hby d5_78) rfl rfl (pc' := 79) rfl ?_
  refine own_iconst X14 hx (hb hby d5_79) (z := (3 : Int32)) rfl (pc' := 80) rfl ?_
  refine own_aloadN X14 hx (hb hby d5_80) rfl rfl (pc' := 81) rfl ?_
  refine own_iconst X14 hx (hb hby d5_81) (z := (3 : Int32)) rfl (pc' := 82) rfl ?_
  refine own_laload X14 hx hZ e14 A14 (x := ((own_rot tt.2.2.2 (16 : Int32)) ^^^ (tt.2.2.1 + tt.2.2.2))) (by decide) rfl (hb hby d5_82) (pc' := 83) rfl ?_
  refine own_bipush X14 hx (hb hby d5_83) (z := (21 : Int32)) (by decide) (pc' := 85) rfl ?_
  have z16 : n0 ≤ h14.size := (Nat.le_trans (Nat.le_trans (Nat.le_trans z11 (Nat.le_of_eq (Wr.size W12).symm)) (Nat.le_of_eq (Wr.size W13).symm)) (Nat.le_of_eq (Wr.size W14).symm))
  refine own_callS X14 hx hZ hown (ow_23 hw) (ow_24 hw) (ow_7 hw) (ow_25 hw) (by decide) (rm_rotl l Z a0 hw ((own_rot tt.2.2.2 (16 : Int32)) ^^^ (tt.2.2.1 + tt.2.2.2)) (21 : Int32) h14 n0 z16) e14 (W := 2) (by decide) (by decide) opd__JI_J rfl (rest := [(.int (3 : Int32)), (.ref ra)]) rfl (hb hby d5_85) (Nat.le_of_eq rfl) (by rw [hml]; rfl) (by decide) (by decide) (pc' := 88) rfl ?_
  intro v15 T15 L15 X15 q15
  obtain ⟨rfl, Nq15, eh15⟩ := q15
  have N15 := Fr.app N14 Nq15
  show own_G p e below s _ _ _ (T15.setTop (mkF m 88 #[vR ra] [(.long (own_rot ((own_rot tt.2.2.2 (16 : Int32)) ^^^ (tt.2.2.1 + tt.2.2.2)) (21 : Int32))), (.int (3 : Int32)), (.ref ra)]))
  refine own_lastore X15 hx hZ eh15 (g' := (own_LJ [((own_rot (tt.1 + tt.2.1) (32 : Int32)) + ((own_rot tt.2.2.2 (16 : Int32)) ^^^ (tt.2.2.1 + tt.2.2.2))), ((own_rot tt.2.1 (13 : Int32)) ^^^ (tt.1 + tt.2.1)), (tt.2.2.1 + tt.2.2.2), (own_rot ((own_rot tt.2.2.2 (16 : Int32)) ^^^ (tt.2.2.1 + tt.2.2.2)) (21 : Int32))])) A14 (x' := (own_rot ((own_rot tt.2.2.2 (16 : Int32)) ^^^ (tt.2.2.1 + tt.2.2.2)) (21 : Int32))) (by decide) rfl (fun i _ => own_LJ_set [((own_rot (tt.1 + tt.2.1) (32 : Int32)) + ((own_rot tt.2.2.2 (16 : Int32)) ^^^ (tt.2.2.1 + tt.2.2.2))), ((own_rot tt.2.1 (13 : Int32)) ^^^ (tt.1 + tt.2.1)), (tt.2.2.1 + tt.2.2.2), ((own_rot tt.2.2.2 (16 : Int32)) ^^^ (tt.2.2.1 + tt.2.2.2))] 3 (own_rot ((own_rot tt.2.2.2 (16 : Int32)) ^^^ (tt.2.2.1 + tt.2.2.2)) (21 : Int32)) (by simp) i) (hb hby d5_88) (pc' := 89) rfl ?_
  intro T17 h17 X17 e17 W17 A17
  have N17 := Fr.snoc X17 N15 g_ra
  refine own_aloadN X17 hx (hb hby d5_89) rfl rfl (pc' := 90) rfl ?_
  refine own_iconst X17 hx (hb hby d5_90) (z := (3 : Int32)) rfl (pc' := 91) rfl ?_
  refine own_dup2 X17 hx (hb hby d5_91) rfl rfl (pc' := 92) rfl ?_
  refine own_laload X17 hx hZ e17 A17 (x := (own_rot ((own_rot tt.2.2.2 (16 : Int32)) ^^^ (tt.2.2.1 + tt.2.2.2)) (21 : Int32))) (by decide) rfl (hb hby d5_92) (pc' := 93) rfl ?_
  refine own_aloadN X17 hx (hb hby d5_93) rfl rfl (pc' := 94) rfl ?_
  refine own_iconst X17 hx (hb hby d5_94) (z := (0 : Int32)) rfl (pc' := 95) rfl ?_
  refine own_laload X17 hx hZ e17 A17 (x := ((own_rot (tt.1 + tt.2.1) (32 : Int32)) + ((own_rot tt.2.2.2 (16 : Int32)) ^^^ (tt.2.2.1 + tt.2.2.2)))) (by decide) rfl (hb hby d5_95) (pc' := 96) rfl ?_
  refine own_lxor X17 hx (hb hby d5_96) (pc' := 97) rfl ?_
  refine own_lastore X17 hx hZ e17 (g' := (own_LJ [((own_rot (tt.1 + tt.2.1) (32 : Int32)) + ((own_rot tt.2.2.2 (16 : Int32)) ^^^ (tt.2.2.1 + tt.2.2.2))), ((own_rot tt.2.1 (13 : Int32)) ^^^ (tt.1 + tt.2.1)), (tt.2.2.1 + tt.2.2.2), ((own_rot ((own_rot tt.2.2.2 (16 : Int32)) ^^^ (tt.2.2.1 + tt.2.2.2)) (21 : Int32)) ^^^ ((own_rot (tt.1 + tt.2.1) (32 : Int32)) + ((own_rot tt.2.2.2 (16 : Int32)) ^^^ (tt.2.2.1 + tt.2.2.2))))])) A17 (x' := ((own_rot ((own_rot tt.2.2.2 (16 : Int32)) ^^^ (tt.2.2.1 + tt.2.2.2)) (21 : Int32)) ^^^ ((own_rot (tt.1 + tt.2.1) (32 : Int32)) + ((own_rot tt.2.2.2 (16 : Int32)) ^^^ (tt.2.2.1 + tt.2.2.2))))) (by decide) rfl (fun i _ => own_LJ_set [((own_rot (tt.1 + tt.2.1) (32 : Int32)) + ((own_rot tt.2.2.2 (16 : Int32)) ^^^ (tt.2.2.1 + tt.2.2.2))), ((own_rot tt.2.1 (13 : Int32)) ^^^ (tt.1 + tt.2.1)), (tt.2.2.1 + tt.2.2.2), (own_rot ((own_rot tt.2.2.2 (16 : Int32)) ^^^ (tt.2.2.1 + tt.2.2.2)) (21 : Int32))] 3 ((own_rot ((own_rot tt.2.2.2 (16 : Int32)) ^^^ (tt.2.2.1 + tt.2.2.2)) (21 : Int32)) ^^^ ((own_rot (tt.1 + tt.2.1) (32 : Int32)) + ((own_rot tt.2.2.2 (16 : Int32)) ^^^ (tt.2.2.1 + tt.2.2.2)))) (by simp) i) (hb hby d5_97) (pc' := 98) rfl ?_
  intro T18 h18 X18 e18 W18 A18
  have N18 := Fr.snoc X18 N17 g_ra
  refine own_aloadN X18 hx (hb hby d5_98) rfl rfl (pc' := 99) rfl ?_
  refine own_iconst X18 hx (hb hby d5_99) (z := (2 : Int32)) rfl (pc' := 100) rfl ?_
  refine own_dup2 X18 hx (hb hby d5_100) rfl rfl (pc' := 101) rfl ?_
  refine own_laload X18 hx hZ e18 A18 (x := (tt.2.2.1 + tt.2.2.2)) (by decide) rfl (hb hby d5_101) (pc' := 102) rfl ?_
  refine own_aloadN X18 hx (hb hby d5_102) rfl rfl (pc' := 103) rfl ?_
  refine own_iconst X18 hx (hb hby d5_103) (z := (1 : Int32)) rfl (pc' := 104) rfl ?_
  refine own_laload X18 hx hZ e18 A18 (x := ((own_rot tt.2.1 (13 : Int32)) ^^^ (tt.1 + tt.2.1))) (by decide) rfl (hb hby d5_104) (pc' := 105) rfl ?_
  refine own_ladd X18 hx (hb hby d5_105) (pc' := 106) rfl ?_
  refine own_lastore X18 hx hZ e18 (g' := (own_LJ [((own_rot (tt.1 + tt.2.1) (32 : Int32)) + ((own_rot tt.2.2.2 (16 : Int32)) ^^^ (tt.2.2.1 + tt.2.2.2))), ((own_rot tt.2.1 (13 : Int32)) ^^^ (tt.1 + tt.2.1)), ((tt.2.2.1 + tt.2.2.2) + ((own_rot tt.2.1 (13 : Int32)) ^^^ (tt.1 + tt.2.1))), ((own_rot ((own_rot tt.2.2.2 (16 : Int32)) ^^^ (tt.2.2.1 + tt.2.2.2)) (21 : Int32)) ^^^ ((own_rot (tt.1 + tt.2.1) (32 : Int32)) + ((own_rot tt.2.2.2 (16 : Int32)) ^^^ (tt.2.2.1 + tt.2.2.2))))])) A18 (x' := ((tt.2.2.1 + tt.2.2.2) + ((own_rot tt.2.1 (13 : Int32)) ^^^ (tt.1 + tt.2.1)))) (by decide) rfl (fun i _ => own_LJ_set [((own_rot (tt.1 + tt.2.1) (32 : Int32)) + ((own_rot tt.2.2.2 (16 : Int32)) ^^^ (tt.2.2.1 + tt.2.2.2))), ((own_rot tt.2.1 (13 : Int32)) ^^^ (tt.1 + tt.2.1)), (tt.2.2.1 + tt.2.2.2), ((own_rot ((own_rot tt.2.2.2 (16 : Int32)) ^^^ (tt.2.2.1 + tt.2.2.2)) (21 : Int32)) ^^^ ((own_rot (tt.1 + tt.2.1) (32 : Int32)) + ((own_rot tt.2.2.2 (16 : Int32)) ^^^ (tt.2.2.1 + tt.2.2.2))))] 2 ((tt.2.2.1 + tt.2.2.2) + ((own_rot tt.2.1 (13 : Int32)) ^^^ (tt.1 + tt.2.1))) (by simp) i) (hb hby d5_106) (pc' := 107) rfl ?_
  intro T19 h19 X19 e19 W19 A19
  have N19 := Fr.snoc X19 N18 g_ra
  refine own_aloadN X19 hx (hb hby d5_107) rfl rfl (pc' := 108) rfl ?_
  refine own_iconst X19 hx (hb hby d5_108) (z := (1 : Int32)) rfl (pc' := 109) rfl ?_
  refine own_aloadN X19 hx (hb hby d5_109) rfl rfl (pc' := 110) rfl ?_
  refine own_iconst X19 hx (hb hby d5_110) (z := (1 : Int32)) rfl (pc' := 111) rfl ?_
  refine own_laload X19 hx hZ e19 A19 (x := ((own_rot tt.2.1 (13 : Int32)) ^^^ (tt.1 + tt.2.1))) (by decide) rfl (hb hby d5_111) (pc' := 112) rfl ?_
  refine own_bipush X19 hx (hb hby d5_112) (z := (17 : Int32)) (by decide) (pc' := 114) rfl ?_
  have z21 : n0 ≤ h19.size := (Nat.le_trans (Nat.le_trans (Nat.le_trans z16 (Nat.le_of_eq (Wr.size W17).symm)) (Nat.le_of_eq (Wr.size W18).symm)) (Nat.le_of_eq (Wr.size W19).symm))
  refine own_callS X19 hx hZ hown (ow_23 hw) (ow_24 hw) (ow_7 hw) (ow_25 hw) (by decide) (rm_rotl l Z a0 hw ((own_rot tt.2.1 (13 : Int32)) ^^^ (tt.1 + tt.2.1)) (17 : Int32) h19 n0 z21) e19 (W := 2) (by decide) (by decide) opd__JI_J rfl (rest := [(.int (1 : Int32)), (.ref ra)]) rfl (hb hby d5_114) (Nat.le_of_eq rfl) (by rw [hml]; rfl) (by decide) (by decide) (pc' := 117) rfl ?_
  intro v20 T20 L20 X20 q20
  obtain ⟨rfl, Nq20, eh20⟩ := q20
  have N20 := Fr.app N19 Nq20
  show own_G p e below s _ _ _ (T20.setTop (mkF m 117 #[vR ra] [(.long (own_rot ((own_rot tt.2.1 (13 : Int32)) ^^^ (tt.1 + tt.2.1)) (17 : Int32))), (.int (1 : Int32)), (.ref ra)]))
  refine own_lastore X20 hx hZ eh20 (g' := (own_LJ [((own_rot (tt.1 + tt.2.1) (32 : Int32)) + ((own_rot tt.2.2.2 (16 : Int32)) ^^^ (tt.2.2.1 + tt.2.2.2))), (own_rot ((own_rot tt.2.1 (13 : Int32)) ^^^ (tt.1 + tt.2.1)) (17 : Int32)), ((tt.2.2.1 + tt.2.2.2) + ((own_rot tt.2.1 (13 : Int32)) ^^^ (tt.1 + tt.2.1))), ((own_rot ((own_rot tt.2.2.2 (16 : Int32)) ^^^ (tt.2.2.1 + tt.2.2.2)) (21 : Int32)) ^^^ ((own_rot (tt.1 + tt.2.1) (32 : Int32)) + ((own_rot tt.2.2.2 (16 : Int32)) ^^^ (tt.2.2.1 + tt.2.2.2))))])) A19 (x' := (own_rot ((own_rot tt.2.1 (13 : Int32)) ^^^ (tt.1 + tt.2.1)) (17 : Int32))) (by decide) rfl (fun i _ => own_LJ_set [((own_rot (tt.1 + tt.2.1) (32 : Int32)) + ((own_rot tt.2.2.2 (16 : Int32)) ^^^ (tt.2.2.1 + tt.2.2.2))), ((own_rot tt.2.1 (13 : Int32)) ^^^ (tt.1 + tt.2.1)), ((tt.2.2.1 + tt.2.2.2) + ((own_rot tt.2.1 (13 : Int32)) ^^^ (tt.1 + tt.2.1))), ((own_rot ((own_rot tt.2.2.2 (16 : Int32)) ^^^ (tt.2.2.1 + tt.2.2.2)) (21 : Int32)) ^^^ ((own_rot (tt.1 + tt.2.1) (32 : Int32)) + ((own_rot tt.2.2.2 (16 : Int32)) ^^^ (tt.2.2.1 + tt.2.2.2))))] 1 (own_rot ((own_rot tt.2.1 (13 : Int32)) ^^^ (tt.1 + tt.2.1)) (17 : Int32)) (by simp) i) (hb hby d5_117) (pc' := 118) rfl ?_
  intro T22 h22 X22 e22 W22 A22
  have N22 := Fr.snoc X22 N20 g_ra
  refine own_aloadN X22 hx (hb hby d5_118) rfl rfl (pc' := 119) rfl ?_
  refine own_iconst X22 hx (hb hby d5_119) (z := (1 : Int32)) rfl (pc' := 120) rfl ?_
  refine own_dup2 X22 hx (hb hby d5_120) rfl rfl (pc' := 121) rfl ?_
  refine own_laload X22 hx hZ e22 A22 (x := (own_rot ((own_rot tt.2.1 (13 : Int32)) ^^^ (tt.1 + tt.2.1)) (17 : Int32))) (by decide) rfl (hb hby d5_121) (pc' := 122) rfl ?_
  refine own_aloadN X22 hx (hb hby d5_122) rfl rfl (pc' := 123) rfl ?_
  refine own_iconst X22 hx (hb hby d5_123) (z := (2 : Int32)) rfl (pc' := 124) rfl ?_
  refine own_laload X22 hx hZ e22 A22 (x := ((tt.2.2.1 + tt.2.2.2) + ((own_rot tt.2.1 (13 : Int32)) ^^^ (tt.1 + tt.2.1)))) (by decide) rfl (hb hby d5_124) (pc' := 125) rfl ?_
  refine own_lxor X22 hx (hb hby d5_125) (pc' := 126) rfl ?_
  refine own_lastore X22 hx hZ e22 (g' := (own_LJ [((own_rot (tt.1 + tt.2.1) (32 : Int32)) + ((own_rot tt.2.2.2 (16 : Int32)) ^^^ (tt.2.2.1 + tt.2.2.2))), ((own_rot ((own_rot tt.2.1 (13 : Int32)) ^^^ (tt.1 + tt.2.1)) (17 : Int32)) ^^^ ((tt.2.2.1 + tt.2.2.2) + ((own_rot tt.2.1 (13 : Int32)) ^^^ (tt.1 + tt.2.1)))), ((tt.2.2.1 + tt.2.2.2) + ((own_rot tt.2.1 (13 : Int32)) ^^^ (tt.1 + tt.2.1))), ((own_rot ((own_rot tt.2.2.2 (16 : Int32)) ^^^ (tt.2.2.1 + tt.2.2.2)) (21 : Int32)) ^^^ ((own_rot (tt.1 + tt.2.1) (32 : Int32)) + ((own_rot tt.2.2.2 (16 : Int32)) ^^^ (tt.2.2.1 + tt.2.2.2))))])) A22 (x' := ((own_rot ((own_rot tt.2.1 (13 : Int32)) ^^^ (tt.1 + tt.2.1)) (17 : Int32)) ^^^ ((tt.2.2.1 + tt.2.2.2) + ((own_rot tt.2.1 (13 : Int32)) ^^^ (tt.1 + tt.2.1))))) (by decide) rfl (fun i _ => own_LJ_set [((own_rot (tt.1 + tt.2.1) (32 : Int32)) + ((own_rot tt.2.2.2 (16 : Int32)) ^^^ (tt.2.2.1 + tt.2.2.2))), (own_rot ((own_rot tt.2.1 (13 : Int32)) ^^^ (tt.1 + tt.2.1)) (17 : Int32)), ((tt.2.2.1 + tt.2.2.2) + ((own_rot tt.2.1 (13 : Int32)) ^^^ (tt.1 + tt.2.1))), ((own_rot ((own_rot tt.2.2.2 (16 : Int32)) ^^^ (tt.2.2.1 + tt.2.2.2)) (21 : Int32)) ^^^ ((own_rot (tt.1 + tt.2.1) (32 : Int32)) + ((own_rot tt.2.2.2 (16 : Int32)) ^^^ (tt.2.2.1 + tt.2.2.2))))] 1 ((own_rot ((own_rot tt.2.1 (13 : Int32)) ^^^ (tt.1 + tt.2.1)) (17 : Int32)) ^^^ ((tt.2.2.1 + tt.2.2.2) + ((own_rot tt.2.1 (13 : Int32)) ^^^ (tt.1 + tt.2.1)))) (by simp) i) (hb hby d5_126) (pc' := 127) rfl ?_
  intro T23 h23 X23 e23 W23 A23
  have N23 := Fr.snoc X23 N22 g_ra
  refine own_aloadN X23 hx (hb hby d5_127) rfl rfl (pc' := 128) rfl ?_
  refine own_iconst X23 hx (hb hby d5_128) (z := (2 : Int32)) rfl (pc' := 129) rfl ?_
  refine own_aloadN X23 hx (hb hby d5_129) rfl rfl (pc' := 130) rfl ?_
  refine own_iconst X23 hx (hb hby d5_130) (z := (2 : Int32)) rfl (pc' := 131) rfl ?_
  refine own_laload X23 hx hZ e23 A23 (x := ((tt.2.2.1 + tt.2.2.2) + ((own_rot tt.2.1 (13 : Int32)) ^^^ (tt.1 + tt.2.1)))) (by decide) rfl (hb hby d5_131) (pc' := 132) rfl ?_
  refine own_bipush X23 hx (hb hby d5_132) (z := (32 : Int32)) (by decide) (pc' := 134) rfl ?_
  have z25 : n0 ≤ h23.size := (Nat.le_trans (Nat.le_trans z21 (Nat.le_of_eq (Wr.size W22).symm)) (Nat.le_of_eq (Wr.size W23).symm))
  refine own_callS X23 hx hZ hown (ow_23 hw) (ow_24 hw) (ow_7 hw) (ow_25 hw) (by decide) (rm_rotl l Z a0 hw ((tt.2.2.1 + tt.2.2.2) + ((own_rot tt.2.1 (13 : Int32)) ^^^ (tt.1 + tt.2.1))) (32 : Int32) h23 n0 z25) e23 (W := 2) (by decide) (by decide) opd__JI_J rfl (rest := [(.int (2 : Int32)), (.ref ra)]) rfl (hb hby d5_134) (Nat.le_of_eq rfl) (by rw [hml]; rfl) (by decide) (by decide) (pc' := 137) rfl ?_
  intro v24 T24 L24 X24 q24
  obtain ⟨rfl, Nq24, eh24⟩ := q24
  have N24 := Fr.app N23 Nq24
  show own_G p e below s _ _ _ (T24.setTop (mkF m 137 #[vR ra] [(.long (own_rot ((tt.2.2.1 + tt.2.2.2) + ((own_rot tt.2.1 (13 : Int32)) ^^^ (tt.1 + tt.2.1))) (32 : Int32))), (.int (2 : Int32)), (.ref ra)]))
  refine own_lastore X24 hx hZ eh24 (g' := (own_LJ [((own_rot (tt.1 + tt.2.1) (32 : Int32)) + ((own_rot tt.2.2.2 (16 : Int32)) ^^^ (tt.2.2.1 + tt.2.2.2))), ((own_rot ((own_rot tt.2.1 (13 : Int32)) ^^^ (tt.1 + tt.2.1)) (17 : Int32)) ^^^ ((tt.2.2.1 + tt.2.2.2) + ((own_rot tt.2.1 (13 : Int32)) ^^^ (tt.1 + tt.2.1)))), (own_rot ((tt.2.2.1 + tt.2.2.2) + ((own_rot tt.2.1 (13 : Int32)) ^^^ (tt.1 + tt.2.1))) (32 : Int32)), ((own_rot ((own_rot tt.2.2.2 (16 : Int32)) ^^^ (tt.2.2.1 + tt.2.2.2)) (21 : Int32)) ^^^ ((own_rot (tt.1 + tt.2.1) (32 : Int32)) + ((own_rot tt.2.2.2 (16 : Int32)) ^^^ (tt.2.2.1 + tt.2.2.2))))])) A23 (x' := (own_rot ((tt.2.2.1 + tt.2.2.2) + ((own_rot tt.2.1 (13 : Int32)) ^^^ (tt.1 + tt.2.1))) (32 : Int32))) (by decide) rfl (fun i _ => own_LJ_set [((own_rot (tt.1 + tt.2.1) (32 : Int32)) + ((own_rot tt.2.2.2 (16 : Int32)) ^^^ (tt.2.2.1 + tt.2.2.2))), ((own_rot ((own_rot tt.2.1 (13 : Int32)) ^^^ (tt.1 + tt.2.1)) (17 : Int32)) ^^^ ((tt.2.2.1 + tt.2.2.2) + ((own_rot tt.2.1 (13 : Int32)) ^^^ (tt.1 + tt.2.1)))), ((tt.2.2.1 + tt.2.2.2) + ((own_rot tt.2.1 (13 : Int32)) ^^^ (tt.1 + tt.2.1))), ((own_rot ((own_rot tt.2.2.2 (16 : Int32)) ^^^ (tt.2.2.1 + tt.2.2.2)) (21 : Int32)) ^^^ ((own_rot (tt.1 + tt.2.1) (32 : Int32)) + ((own_rot tt.2.2.2 (16 : Int32)) ^^^ (tt.2.2.1 + tt.2.2.2))))] 2 (own_rot ((tt.2.2.1 + tt.2.2.2) + ((own_rot tt.2.1 (13 : Int32)) ^^^ (tt.1 + tt.2.1))) (32 : Int32)) (by simp) i) (hb hby d5_137) (pc' := 138) rfl ?_
  intro T26 h26 X26 e26 W26 A26
  have N26 := Fr.snoc X26 N24 g_ra
  have k41 : Keep h0 h26 [ra] := (Keep.wr (Keep.wr (Keep.wr (Keep.wr (Keep.wr (Keep.wr (Keep.wr (Keep.wr (Keep.wr (Keep.wr (Keep.wr (Keep.wr (Keep.wr (Keep.wr (Keep.refl _ _) W1 (Or.inl (List.mem_of_getElem? (i := 0) rfl))) W4 (Or.inl (List.mem_of_getElem? (i := 0) rfl))) W5 (Or.inl (List.mem_of_getElem? (i := 0) rfl))) W8 (Or.inl (List.mem_of_getElem? (i := 0) rfl))) W9 (Or.inl (List.mem_of_getElem? (i := 0) rfl))) W12 (Or.inl (List.mem_of_getElem? (i := 0) rfl))) W13 (Or.inl (List.mem_of_getElem? (i := 0) rfl))) W14 (Or.inl (List.mem_of_getElem? (i := 0) rfl))) W17 (Or.inl (List.mem_of_getElem? (i := 0) rfl))) W18 (Or.inl (List.mem_of_getElem? (i := 0) rfl))) W19 (Or.inl (List.mem_of_getElem? (i := 0) rfl))) W22 (Or.inl (List.mem_of_getElem? (i := 0) rfl))) W23 (Or.inl (List.mem_of_getElem? (i := 0) rfl))) W26 (Or.inl (List.mem_of_getElem? (i := 0) rfl)))
  exact own_retV X26 hx hret hlk (hb hby d5_138) ⟨rfl, N26, (by rw [e26]; exact k41), (by rw [e26]; exact A26)⟩ (by decide) (by decide)
theorem d4_0 : decode method_7_code 0 = .ok (.aload_n 0, 1) := by decide +kernel
theorem d4_1 : decode method_7_code 1 = .ok (.iconst 3, 1) := by decide +kernel
theorem d4_2 : decode method_7_code 2 = .ok (.dup2, 1) := by decide +kernel
theorem d4_3 : decode method_7_code 3 = .ok (.laload, 1) := by decide +kernel
theorem d4_4 : decode method_7_code 4 = .ok (.lload_n 1, 1) := by decide +kernel
theorem d4_5 : decode method_7_code 5 = .ok (.lxor, 1) := by decide +kernel
theorem d4_6 : decode method_7_code 6 = .ok (.lastore, 1) := by decide +kernel
theorem d4_7 : decode method_7_code 7 = .ok (.aload_n 0, 1) := by decide +kernel
theorem d4_8 : decode method_7_code 8 = .ok (.invokestatic 37, 3) := by decide +kernel
theorem ow_20 {Z : State} {a0 : Array Value} (hw : ∀ d ∈ tables_1, d.before a0 Z = true) : (Jvm.Cond.methodLink "com/example/structlane/structlane/header/SipHashHashPinLaw" (37 : Nat) ({ cls := "com/example/structlane/structlane/header/SipHashHashPinLaw", name := "round", desc := "([J)V" } : Jvm.MethodName)).before a0 Z = true := hw _ (List.mem_of_getElem? (i := 20) rfl)
theorem opd___J_V : parseMethodDescriptor "([J)V" = some ⟨[(.array .long)], none⟩ := by decide +kernel
theorem ow_21 {Z : State} {a0 : Array Value} (hw : ∀ d ∈ tables_1, d.before a0 Z = true) : (Jvm.Cond.static ({ cls := "com/example/structlane/structlane/header/SipHashHashPinLaw", name := "round", desc := "([J)V" } : Jvm.MethodName)).before a0 Z = true := hw _ (List.mem_of_getElem? (i := 21) rfl)
theorem ow_22 {Z : State} {a0 : Array Value} (hw : ∀ d ∈ tables_1, d.before a0 Z = true) : (Jvm.Cond.code ({ cls := "com/example/structlane/structlane/header/SipHashHashPinLaw", name := "round", desc := "([J)V" } : Jvm.MethodName) method_6_code (1 : Nat) (Option.none : Option Jvm.ClassFile.FieldType)).before a0 Z = true := hw _ (List.mem_of_getElem? (i := 22) rfl)
theorem d4_11 : decode method_7_code 11 = .ok (.aload_n 0, 1) := by decide +kernel
theorem d4_12 : decode method_7_code 12 = .ok (.iconst 0, 1) := by decide +kernel
theorem d4_13 : decode method_7_code 13 = .ok (.dup2, 1) := by decide +kernel
theorem d4_14 : decode method_7_code 14 = .ok (.laload, 1) := by decide +kernel
theorem d4_15 : decode method_7_code 15 = .ok (.lload_n 1, 1) := by decide +kernel
theorem d4_16 : decode method_7_code 16 = .ok (.lxor, 1) := by decide +kernel
theorem d4_17 : decode method_7_code 17 = .ok (.lastore, 1) := by decide +kernel
theorem d4_18 : decode method_7_code 18 = .ok (.return_, 1) := by decide +kernel
theorem oef_rm_comp (m : MethodId) (ra : Addr) (u0 : Int64) : entryFrame m #[(.ref ra), (.long u0)] 3 = mkF m 0 #[vR ra, vL u0, vS] [] := by first | (simp [entryFrame, mkF, argsToLocals, Value.category]; done) | rfl
set_option maxRecDepth 65536 in
set_option maxHeartbeats 40000000 in
theorem rm_comp (l : Launch) (Z : State) (a0 : Array Value) (hw : ∀ d ∈ tables_1, d.before a0 Z = true) (ra : Addr) (u0 : Int64) (tt : own_S) (h0 : Heap) (n0 : Nat) (Z0 : n0 ≤ h0.size) (P0 : own_AJ Z h0 ra .long (4 : Int32) (own_LJ [tt.1, tt.2.1, tt.2.2.1, tt.2.2.2])) (g_ra : n0 ≤ ra) :
    own_M l Z (⟨"com/example/structlane/structlane/header/SipHashHashPinLaw", "compress", "([JJ)V"⟩ : MethodName) method_7_code 3 none [] ({ frames := 2, cells := 0, slots := 0, locals := 28 } : Room) #[(.ref ra), (.long u0)] h0 (fun v h L => v = none ∧ Fr n0 L ∧ (Keep h0 h [ra]) ∧ (own_AJ Z h ra .long (4 : Int32) (own_LJ [(own_comp u0 tt).1, (own_comp u0 tt).2.1, (own_comp u0 tt).2.2.1, (own_comp u0 tt).2.2.2]))) 0 0 := by
  refine own_body (plainFor_of_name opn_com_example_structlane_structlane_header_SipHashHashPinLaw) ?_
  intro p e s m below meth c s1 hx hby hml hown hnm hret hlk hZ X0 e0
  rw [oef_rm_comp m ra u0]
  have N0 := Fr.nil n0
  refine own_aloadN X0 hx (hb hby d4_0) rfl rfl (pc' := 1) rfl ?_
  refine own_iconst X0 hx (hb hby d4_1) (z := (3 : Int32)) rfl (pc' := 2) rfl ?_
  refine own_dup2 X0 hx (hb hby d4_2) rfl rfl (pc' := 3) rfl ?_
  refine own_laload X0 hx hZ e0 P0 (x := tt.2.2.2) (by decide) rfl (hb hby d4_3) (pc' := 4) rfl ?_
  refine own_lloadN X0 hx (hb hby d4_4) rfl (pc' := 5) rfl ?_
  refine own_lxor X0 hx (hb hby d4_5) (pc' := 6) rfl ?_
  refine own_lastore X0 hx hZ e0 (g' := (own_LJ [tt.1, tt.2.1, tt.2.2.1, (tt.2.2.2 ^^^ u0)])) P0 (x' := (tt.2.2.2 ^^^ u0)) (by decide) rfl (fun i _ => own_LJ_set [tt.1, tt.2.1, tt.2.2.1, tt.2.2.2] 3 (tt.2.2.2 ^^^ u0) (by simp) i) (hb hby d4_6) (pc' := 7) rfl ?_
  intro T1 h1 X1 e1 W1 A1
  have N1 := Fr.snoc X1 N0 g_ra
  refine own_aloadN X1 hx (hb hby d4_7) rfl rfl (pc' := 8) rfl ?_
  have z3 : n0 ≤ h1.size := (Nat.le_trans Z0 (Nat.le_of_eq (Wr.size W1).symm))
  refine own_callS X1 hx hZ hown (ow_20 hw) (ow_21 hw) (ow_7 hw) (ow_22 hw) (by decide) (rm_round l Z a0 hw ra (tt.1, tt.2.1, tt.2.2.1, (tt.2.2.2 ^^^ u0)) h1 n0 z3 A1 g_ra) e1 (W := 0) (by decide) (by decide) opd___J_V rfl (rest := []) rfl (hb hby d4_8) (Nat.le_of_eq rfl) (by rw [hml]; rfl) (by decide) (by decide) (pc' := 11) rfl ?_
  intro v2 T2 L2 X2 q2
  obtain ⟨rfl, Nq2, K2, p2_0⟩ := q2
  have N2 := Fr.app N1 Nq2
  show own_G p e below s _ _ _ (T2.setTop (mkF m 11 #[vR ra, vL u0, vS] []))
  refine own_aloadN X2 hx (hb hby d4_11) rfl rfl (pc' := 12) rfl ?_
  refine own_iconst X2 hx (hb hby d4_12) (z := (0 : Int32)) rfl (pc' := 13) rfl ?_
  refine own_dup2 X2 hx (hb hby d4_13) rfl rfl (pc' := 14) rfl ?_
  refine own_laload X2 hx hZ rfl p2_0 (x := (own_round (tt.1, tt.2.1, tt.2.2.1, (tt.2.2.2 ^^^ u0))).1) (by decide) rfl (hb hby d4_14) (pc' := 15) rfl ?_
  refine own_lloadN X2 hx (hb hby d4_15) rfl (pc' := 16) rfl ?_
  refine own_lxor X2 hx (hb hby d4_16) (pc' := 17) rfl ?_
  refine own_lastore X2 hx hZ rfl (g' := (own_LJ [(((own_round (tt.1, tt.2.1, tt.2.2.1, (tt.2.2.2 ^^^ u0))).1) ^^^ u0), (own_round (tt.1, tt.2.1, tt.2.2.1, (tt.2.2.2 ^^^ u0))).2.1, (own_round (tt.1, tt.2.1, tt.2.2.1, (tt.2.2.2 ^^^ u0))).2.2.1, (own_round (tt.1, tt.2.1, tt.2.2.1, (tt.2.2.2 ^^^ u0))).2.2.2])) p2_0 (x' := (((own_round (tt.1, tt.2.1, tt.2.2.1, (tt.2.2.2 ^^^ u0))).1) ^^^ u0)) (by decide) rfl (fun i _ => own_LJ_set [(own_round (tt.1, tt.2.1, tt.2.2.1, (tt.2.2.2 ^^^ u0))).1, (own_round (tt.1, tt.2.1, tt.2.2.1, (tt.2.2.2 ^^^ u0))).2.1, (own_round (tt.1, tt.2.1, tt.2.2.1, (tt.2.2.2 ^^^ u0))).2.2.1, (own_round (tt.1, tt.2.1, tt.2.2.1, (tt.2.2.2 ^^^ u0))).2.2.2] 0 (((own_round (tt.1, tt.2.1, tt.2.2.1, (tt.2.2.2 ^^^ u0))).1) ^^^ u0) (by simp) i) (hb hby d4_17) (pc' := 18) rfl ?_
  intro T4 h4 X4 e4 W4 A4
  have N4 := Fr.snoc X4 N2 g_ra
  have k8 : Keep h0 h4 [ra] := (Keep.wr (Keep.trans (Keep.wr (Keep.refl _ _) W1 (Or.inl (List.mem_of_getElem? (i := 0) rfl))) K2 (allS (Or.inl (List.mem_of_getElem? (i := 0) rfl)) all0)) W4 (Or.inl (List.mem_of_getElem? (i := 0) rfl)))
  exact own_retV X4 hx hret hlk (hb hby d4_18) ⟨rfl, N4, (by rw [e4]; exact k8), (by rw [e4]; exact A4)⟩ (by decide) (by decide)
theorem d7_0 : decode prog_186_method_1_code 0 = .ok (.aload_n 0, 1) := by decide +kernel
theorem d7_1 : decode prog_186_method_1_code 1 = .ok (.invokespecial 1, 3) := by decide +kernel
theorem ow_33 {Z : State} {a0 : Array Value} (hw : ∀ d ∈ tables_1, d.before a0 Z = true) : (Jvm.Cond.methodLink "com/example/structlane/structlane/header/SipHash" (1 : Nat) ({ cls := "java/lang/Object", name := "<init>", desc := "()V" } : Jvm.MethodName)).before a0 Z = true := hw _ (List.mem_of_getElem? (i := 33) rfl)
theorem ow_34 {Z : State} {a0 : Array Value} (hw : ∀ d ∈ tables_1, d.before a0 Z = true) : (Jvm.Cond.instanceMethod ({ cls := "java/lang/Object", name := "<init>", desc := "()V" } : Jvm.MethodName)).before a0 Z = true := hw _ (List.mem_of_getElem? (i := 34) rfl)
theorem ow_35 {Z : State} {a0 : Array Value} (hw : ∀ d ∈ tables_1, d.before a0 Z = true) : (Jvm.Cond.code ({ cls := "java/lang/Object", name := "<init>", desc := "()V" } : Jvm.MethodName) object_method_1_code (1 : Nat) (Option.none : Option Jvm.ClassFile.FieldType)).before a0 Z = true := hw _ (List.mem_of_getElem? (i := 35) rfl)
theorem d7_4 : decode prog_186_method_1_code 4 = .ok (.aload_n 0, 1) := by decide +kernel
theorem d7_5 : decode prog_186_method_1_code 5 = .ok (.lload_n 1, 1) := by decide +kernel
theorem d7_6 : decode prog_186_method_1_code 6 = .ok (.putfield 7, 3) := by decide +kernel
theorem ow_36 {Z : State} {a0 : Array Value} (hw : ∀ d ∈ tables_1, d.before a0 Z = true) : (Jvm.Cond.fieldLink "com/example/structlane/structlane/header/SipHash" (7 : Nat) "com/example/structlane/structlane/header/SipHash" "key0" "J").before a0 Z = true := hw _ (List.mem_of_getElem? (i := 36) rfl)
theorem ow_37 {Z : State} {a0 : Array Value} (hw : ∀ d ∈ tables_1, d.before a0 Z = true) : (Jvm.Cond.laysFinal "com/example/structlane/structlane/header/SipHash" "com/example/structlane/structlane/header/SipHash" "key0" "J").before a0 Z = true := hw _ (List.mem_of_getElem? (i := 37) rfl)
theorem ow_28 {Z : State} {a0 : Array Value} (hw : ∀ d ∈ tables_1, d.before a0 Z = true) : (Jvm.Cond.instantiable "com/example/structlane/structlane/header/SipHash" (2 : Nat)).before a0 Z = true := hw _ (List.mem_of_getElem? (i := 28) rfl)
theorem d7_9 : decode prog_186_method_1_code 9 = .ok (.aload_n 0, 1) := by decide +kernel
theorem d7_10 : decode prog_186_method_1_code 10 = .ok (.lload_n 3, 1) := by decide +kernel
theorem d7_11 : decode prog_186_method_1_code 11 = .ok (.putfield 13, 3) := by decide +kernel
theorem ow_38 {Z : State} {a0 : Array Value} (hw : ∀ d ∈ tables_1, d.before a0 Z = true) : (Jvm.Cond.fieldLink "com/example/structlane/structlane/header/SipHash" (13 : Nat) "com/example/structlane/structlane/header/SipHash" "key1" "J").before a0 Z = true := hw _ (List.mem_of_getElem? (i := 38) rfl)
theorem ow_39 {Z : State} {a0 : Array Value} (hw : ∀ d ∈ tables_1, d.before a0 Z = true) : (Jvm.Cond.laysFinal "com/example/structlane/structlane/header/SipHash" "com/example/structlane/structlane/header/SipHash" "key1" "J").before a0 Z = true := hw _ (List.mem_of_getElem? (i := 39) rfl)
theorem osn_0 {Z : State} {a0 : Array Value} (hw : ∀ d ∈ tables_1, d.before a0 Z = true) : RoadKit.slotOf Z "com/example/structlane/structlane/header/SipHash" "key1" "J" ≠ RoadKit.slotOf Z "com/example/structlane/structlane/header/SipHash" "key0" "J" := slot_ne (C := "com/example/structlane/structlane/header/SipHash") (Or.inr (ow_39 hw)) (Or.inr (ow_37 hw)) (by decide) (t := .long) (t' := .long) (by decide) (by decide)
theorem d7_14 : decode prog_186_method_1_code 14 = .ok (.return_, 1) := by decide +kernel
theorem osn_1 {Z : State} {a0 : Array Value} (hw : ∀ d ∈ tables_1, d.before a0 Z = true) : RoadKit.slotOf Z "com/example/structlane/structlane/header/SipHash" "key0" "J" ≠ RoadKit.slotOf Z "com/example/structlane/structlane/header/SipHash" "key1" "J" := slot_ne (C := "com/example/structlane/structlane/header/SipHash") (Or.inr (ow_37 hw)) (Or.inr (ow_39 hw)) (by decide) (t := .long) (t' := .long) (by decide) (by decide)
theorem opn_com_example_structlane_structlane_header_SipHash : plainName "com/example/structlane/structlane/header/SipHash" = true := by first | (simp [plainName, overriddenIn]; done) | decide +kernel
theorem oef_rm_init (m : MethodId) (ra : Addr) (u0 : Int64) (u1 : Int64) : entryFrame m #[(.ref ra), (.long u0), (.long u1)] 5 = mkF m 0 #[vR ra, vL u0, vS, vL u1, vS] [] := by first | (simp [entryFrame, mkF, argsToLocals, Value.category]; done) | rfl
set_option maxRecDepth 65536 in
set_option maxHeartbeats 40000000 in
theorem rm_init (l : Launch) (Z : State) (a0 : Array Value) (hw : ∀ d ∈ tables_1, d.before a0 Z = true) (ra : Addr) (u0 : Int64) (u1 : Int64) (w0 : Value) (w1 : Value) (h0 : Heap) (n0 : Nat) (Z0 : n0 ≤ h0.size) (P0 : Exa Z h0 ra "com/example/structlane/structlane/header/SipHash") (P1 : Fld Z h0 ra "com/example/structlane/structlane/header/SipHash" "key0" "J" (w0)) (P2 : Fld Z h0 ra "com/example/structlane/structlane/header/SipHash" "key1" "J" (w1)) (g_ra : n0 ≤ ra) :
    own_M l Z (⟨"com/example/structlane/structlane/header/SipHash", "<init>", "(JJ)V"⟩ : MethodName) prog_186_method_1_code 5 none [] ({ frames := 1, cells := 0, slots := 0, locals := 12 } : Room) #[(.ref ra), (.long u0), (.long u1)] h0 (fun v h L => v = none ∧ Fr n0 L ∧ (Keep h0 h [ra]) ∧ (Fld Z h ra "com/example/structlane/structlane/header/SipHash" "key0" "J" (.long u0)) ∧ (Fld Z h ra "com/example/structlane/structlane/header/SipHash" "key1" "J" (.long u1))) 0 0 := by
  refine own_body (plainFor_of_name opn_com_example_structlane_structlane_header_SipHash) ?_
  intro p e s m below meth c s1 hx hby hml hown hnm hret hlk hZ X0 e0
  rw [oef_rm_init m ra u0 u1]
  have N0 := Fr.nil n0
  refine own_aloadN X0 hx (hb hby d7_0) rfl rfl (pc' := 1) rfl ?_
  refine own_initO X0 hx hZ hown (ow_33 hw) (ow_34 hw) (ow_35 hw) e0 (by rw [hml]; rfl) (hb hby d7_1) (by decide) (W := 0) (Nat.le_of_eq rfl) (by decide) (pc' := 4) rfl ?_
  intro T1 X1 e1
  refine own_aloadN X1 hx (hb hby d7_4) rfl rfl (pc' := 5) rfl ?_
  refine own_lloadN X1 hx (hb hby d7_5) rfl (pc' := 6) rfl ?_
  refine own_putF X1 hx hZ hown (ow_36 hw) e1 P1 P0 (Or.inr ⟨(ow_37 hw), rfl, hnm⟩) (ow_28 hw) (ty := .long) (by decide) rfl rfl (hb hby d7_6) (pc' := 9) rfl ?_
  intro T2 h2 X2 e2 W2
  have N2 := Fr.snoc X2 N0 g_ra
  refine own_aloadN X2 hx (hb hby d7_9) rfl rfl (pc' := 10) rfl ?_
  refine own_lloadN X2 hx (hb hby d7_10) rfl (pc' := 11) rfl ?_
  have f3 : Fld Z h2 ra "com/example/structlane/structlane/header/SipHash" "key1" "J" (w1) := (P2.other W2 (Or.inr (osn_0 hw)))
  have f4 : Exa Z h2 ra "com/example/structlane/structlane/header/SipHash" := (P0.wr W2)
  refine own_putF X2 hx hZ hown (ow_38 hw) e2 f3 f4 (Or.inr ⟨(ow_39 hw), rfl, hnm⟩) (ow_28 hw) (ty := .long) (by decide) rfl rfl (hb hby d7_11) (pc' := 14) rfl ?_
  intro T5 h5 X5 e5 W5
  have N5 := Fr.snoc X5 N2 g_ra
  have k8 : Keep h0 h5 [ra] := (Keep.wr (Keep.wr (Keep.refl _ _) W2 (Or.inl (List.mem_of_getElem? (i := 0) rfl))) W5 (Or.inl (List.mem_of_getElem? (i := 0) rfl)))
  have f9 : Fld Z h5 ra "com/example/structlane/structlane/header/SipHash" "key0" "J" (.long u0) := ((P1.same W2).other W5 (Or.inr (osn_1 hw)))
  exact own_retV X5 hx hret hlk (hb hby d7_14) ⟨rfl, N5, (by rw [e5]; exact k8), (by rw [e5]; exact f9), (by rw [e5]; exact (f3.same W5))⟩ (by decide) (by decide)
def own_H (G : Nat → Int32) : Int32 → Nat → Int64
  | _, 0 => 0
  | off, n + 1 => (own_H G (off + 1) n <<< ((8 : Int32) &&& 0x3f).toInt64) ||| own_b G off
theorem own_br (G : Nat → Int32) (j : Int32) : 0 ≤ (own_b G j).toInt ∧ (own_b G j).toInt < 256 := by
  have h := c_mask (G j.toNatClampNeg) 255 8 (by decide) (by decide)
  have h2 := c_i2l (G j.toNatClampNeg &&& 255)
  show 0 ≤ ((G j.toNatClampNeg &&& (255 : Int32)).toInt64).toInt ∧ ((G j.toNatClampNeg &&& (255 : Int32)).toInt64).toInt < 256
  omega
theorem own_hs (x b : Int64) (hb : 0 ≤ b.toInt ∧ b.toInt < 256) : (((x <<< ((8 : Int32) &&& 0x3f).toInt64) ||| b).toInt - (x.toInt * 256 + b.toInt)) % 18446744073709551616 = 0 := by
  have h1 := c_lshl x 8 8 (by decide)
  have h2 := c_orL (x <<< ((8 : Int32) &&& 0x3f).toInt64) b 8 (by decide) 256 (by decide) (by omega) hb.1 hb.2
  omega
theorem own_ls0 (r b : Int64) (hr : r.toInt = 0) (hb : 0 ≤ b.toInt ∧ b.toInt < 256) : (r ||| b).toInt = b.toInt := by
  have : r = 0 := by rw [← Int64.toInt_inj, hr]; rfl
  rw [this, Int64.zero_or]
theorem own_ls1 (r b : Int64) (hr : 0 ≤ r.toInt ∧ r.toInt < 256) (hb : 0 ≤ b.toInt ∧ b.toInt < 256) : (r ||| (b <<< ((8 : Int32) &&& 0x3f).toInt64)).toInt = r.toInt + b.toInt * 256 := by
  have h1 := c_lshl b 8 8 (by decide)
  have h2 := c_orL' r (b <<< ((8 : Int32) &&& 0x3f).toInt64) 8 (by decide) 256 (by decide) (by omega) hr.1 hr.2
  have h3 := rng64 (r ||| (b <<< ((8 : Int32) &&& 0x3f).toInt64))
  omega
theorem own_ls2 (r b : Int64) (hr : 0 ≤ r.toInt ∧ r.toInt < 65536) (hb : 0 ≤ b.toInt ∧ b.toInt < 256) : (r ||| (b <<< ((16 : Int32) &&& 0x3f).toInt64)).toInt = r.toInt + b.toInt * 65536 := by
  have h1 := c_lshl b 16 16 (by decide)
  have h2 := c_orL' r (b <<< ((16 : Int32) &&& 0x3f).toInt64) 16 (by decide) 65536 (by decide) (by omega) hr.1 hr.2
  have h3 := rng64 (r ||| (b <<< ((16 : Int32) &&& 0x3f).toInt64))
  omega
theorem own_ls3 (r b : Int64) (hr : 0 ≤ r.toInt ∧ r.toInt < 16777216) (hb : 0 ≤ b.toInt ∧ b.toInt < 256) : (r ||| (b <<< ((24 : Int32) &&& 0x3f).toInt64)).toInt = r.toInt + b.toInt * 16777216 := by
  have h1 := c_lshl b 24 24 (by decide)
  have h2 := c_orL' r (b <<< ((24 : Int32) &&& 0x3f).toInt64) 24 (by decide) 16777216 (by decide) (by omega) hr.1 hr.2
  have h3 := rng64 (r ||| (b <<< ((24 : Int32) &&& 0x3f).toInt64))
  omega
theorem own_ls4 (r b : Int64) (hr : 0 ≤ r.toInt ∧ r.toInt < 4294967296) (hb : 0 ≤ b.toInt ∧ b.toInt < 256) : (r ||| (b <<< ((32 : Int32) &&& 0x3f).toInt64)).toInt = r.toInt + b.toInt * 4294967296 := by
  have h1 := c_lshl b 32 32 (by decide)
  have h2 := c_orL' r (b <<< ((32 : Int32) &&& 0x3f).toInt64) 32 (by decide) 4294967296 (by decide) (by omega) hr.1 hr.2
  have h3 := rng64 (r ||| (b <<< ((32 : Int32) &&& 0x3f).toInt64))
  omega
theorem own_ls5 (r b : Int64) (hr : 0 ≤ r.toInt ∧ r.toInt < 1099511627776) (hb : 0 ≤ b.toInt ∧ b.toInt < 256) : (r ||| (b <<< ((40 : Int32) &&& 0x3f).toInt64)).toInt = r.toInt + b.toInt * 1099511627776 := by
  have h1 := c_lshl b 40 40 (by decide)
  have h2 := c_orL' r (b <<< ((40 : Int32) &&& 0x3f).toInt64) 40 (by decide) 1099511627776 (by decide) (by omega) hr.1 hr.2
  have h3 := rng64 (r ||| (b <<< ((40 : Int32) &&& 0x3f).toInt64))
  omega
theorem own_ls6 (r b : Int64) (hr : 0 ≤ r.toInt ∧ r.toInt < 281474976710656) (hb : 0 ≤ b.toInt ∧ b.toInt < 256) : (r ||| (b <<< ((48 : Int32) &&& 0x3f).toInt64)).toInt = r.toInt + b.toInt * 281474976710656 := by
  have h1 := c_lshl b 48 48 (by decide)
  have h2 := c_orL' r (b <<< ((48 : Int32) &&& 0x3f).toInt64) 48 (by decide) 281474976710656 (by decide) (by omega) hr.1 hr.2
  have h3 := rng64 (r ||| (b <<< ((48 : Int32) &&& 0x3f).toInt64))
  omega
theorem own_ls7 (r b : Int64) (hr : 0 ≤ r.toInt ∧ r.toInt < 72057594037927936) (hb : 0 ≤ b.toInt ∧ b.toInt < 256) : ((r ||| (b <<< ((56 : Int32) &&& 0x3f).toInt64)).toInt - (r.toInt + b.toInt * 72057594037927936)) % 18446744073709551616 = 0 := by
  have h1 := c_lshl b 56 56 (by decide)
  have h2 := c_orL' r (b <<< ((56 : Int32) &&& 0x3f).toInt64) 56 (by decide) 72057594037927936 (by decide) (by omega) hr.1 hr.2
  have h3 := rng64 (r ||| (b <<< ((56 : Int32) &&& 0x3f).toInt64))
  omega
theorem own_ar0 : (0 : Int64) = (0 : Int64) := rfl
theorem own_ar1 (b0 : Int64) (h0 : 0 ≤ b0.toInt ∧ b0.toInt < 256) : (((0 : Int64) <<< ((8 : Int32) &&& 0x3f).toInt64) ||| b0) = ((0 : Int64) ||| b0) := by
  have e0 := own_hs (0 : Int64) b0 h0
  generalize hx0 : ((((0 : Int64) <<< ((8 : Int32) &&& 0x3f).toInt64) ||| b0)) = y0 at *
  have d0 := own_ls0 (0 : Int64) b0 rfl h0
  generalize hz0 : (((0 : Int64) ||| b0)) = z0 at *
  have r1 := rng64 y0
  have r2 := rng64 z0
  have z0' : (0 : Int64).toInt = 0 := rfl
  rw [← Int64.toInt_inj]
  omega
theorem own_ar2 (b0 b1 : Int64) (h0 : 0 ≤ b0.toInt ∧ b0.toInt < 256) (h1 : 0 ≤ b1.toInt ∧ b1.toInt < 256) : (((((0 : Int64) <<< ((8 : Int32) &&& 0x3f).toInt64) ||| b1) <<< ((8 : Int32) &&& 0x3f).toInt64) ||| b0) = (((0 : Int64) ||| b0) ||| (b1 <<< ((8 : Int32) &&& 0x3f).toInt64)) := by
  have e1 := own_hs (0 : Int64) b1 h1
  generalize hx1 : ((((0 : Int64) <<< ((8 : Int32) &&& 0x3f).toInt64) ||| b1)) = y1 at *
  have e0 := own_hs y1 b0 h0
  generalize hx0 : (((y1 <<< ((8 : Int32) &&& 0x3f).toInt64) ||| b0)) = y0 at *
  have d0 := own_ls0 (0 : Int64) b0 rfl h0
  generalize hz0 : (((0 : Int64) ||| b0)) = z0 at *
  have d1 := own_ls1 z0 b1 (by omega) h1
  generalize hz1 : ((z0 ||| (b1 <<< ((8 : Int32) &&& 0x3f).toInt64))) = z1 at *
  have r1 := rng64 y0
  have r2 := rng64 z1
  have z0' : (0 : Int64).toInt = 0 := rfl
  rw [← Int64.toInt_inj]
  omega
theorem own_ar3 (b0 b1 b2 : Int64) (h0 : 0 ≤ b0.toInt ∧ b0.toInt < 256) (h1 : 0 ≤ b1.toInt ∧ b1.toInt < 256) (h2 : 0 ≤ b2.toInt ∧ b2.toInt < 256) : (((((((0 : Int64) <<< ((8 : Int32) &&& 0x3f).toInt64) ||| b2) <<< ((8 : Int32) &&& 0x3f).toInt64) ||| b1) <<< ((8 : Int32) &&& 0x3f).toInt64) ||| b0) = ((((0 : Int64) ||| b0) ||| (b1 <<< ((8 : Int32) &&& 0x3f).toInt64)) ||| (b2 <<< ((16 : Int32) &&& 0x3f).toInt64)) := by
  have e2 := own_hs (0 : Int64) b2 h2
  generalize hx2 : ((((0 : Int64) <<< ((8 : Int32) &&& 0x3f).toInt64) ||| b2)) = y2 at *
  have e1 := own_hs y2 b1 h1
  generalize hx1 : (((y2 <<< ((8 : Int32) &&& 0x3f).toInt64) ||| b1)) = y1 at *
  have e0 := own_hs y1 b0 h0
  generalize hx0 : (((y1 <<< ((8 : Int32) &&& 0x3f).toInt64) ||| b0)) = y0 at *
  have d0 := own_ls0 (0 : Int64) b0 rfl h0
  generalize hz0 : (((0 : Int64) ||| b0)) = z0 at *
  have d1 := own_ls1 z0 b1 (by omega) h1
  generalize hz1 : ((z0 ||| (b1 <<< ((8 : Int32) &&& 0x3f).toInt64))) = z1 at *
  have d2 := own_ls2 z1 b2 (by omega) h2
  generalize hz2 : ((z1 ||| (b2 <<< ((16 : Int32) &&& 0x3f).toInt64))) = z2 at *
  have r1 := rng64 y0
  have r2 := rng64 z2
  have z0' : (0 : Int64).toInt = 0 := rfl
  rw [← Int64.toInt_inj]
  omega
theorem own_ar4 (b0 b1 b2 b3 : Int64) (h0 : 0 ≤ b0.toInt ∧ b0.toInt < 256) (h1 : 0 ≤ b1.toInt ∧ b1.toInt < 256) (h2 : 0 ≤ b2.toInt ∧ b2.toInt < 256) (h3 : 0 ≤ b3.toInt ∧ b3.toInt < 256) : (((((((((0 : Int64) <<< ((8 : Int32) &&& 0x3f).toInt64) ||| b3) <<< ((8 : Int32) &&& 0x3f).toInt64) ||| b2) <<< ((8 : Int32) &&& 0x3f).toInt64) ||| b1) <<< ((8 : Int32) &&& 0x3f).toInt64) ||| b0) = (((((0 : Int64) ||| b0) ||| (b1 <<< ((8 : Int32) &&& 0x3f).toInt64)) ||| (b2 <<< ((16 : Int32) &&& 0x3f).toInt64)) ||| (b3 <<< ((24 : Int32) &&& 0x3f).toInt64)) := by
  have e3 := own_hs (0 : Int64) b3 h3
  generalize hx3 : ((((0 : Int64) <<< ((8 : Int32) &&& 0x3f).toInt64) ||| b3)) = y3 at *
  have e2 := own_hs y3 b2 h2
  generalize hx2 : (((y3 <<< ((8 : Int32) &&& 0x3f).toInt64) ||| b2)) = y2 at *
  have e1 := own_hs y2 b1 h1
  generalize hx1 : (((y2 <<< ((8 : Int32) &&& 0x3f).toInt64) ||| b1)) = y1 at *
  have e0 := own_hs y1 b0 h0
  generalize hx0 : (((y1 <<< ((8 : Int32) &&& 0x3f).toInt64) ||| b0)) = y0 at *
  have d0 := own_ls0 (0 : Int64) b0 rfl h0
  generalize hz0 : (((0 : Int64) ||| b0)) = z0 at *
  have d1 := own_ls1 z0 b1 (by omega) h1
  generalize hz1 : ((z0 ||| (b1 <<< ((8 : Int32) &&& 0x3f).toInt64))) = z1 at *
  have d2 := own_ls2 z1 b2 (by omega) h2
  generalize hz2 : ((z1 ||| (b2 <<< ((16 : Int32) &&& 0x3f).toInt64))) = z2 at *
  have d3 := own_ls3 z2 b3 (by omega) h3
  generalize hz3 : ((z2 ||| (b3 <<< ((24 : Int32) &&& 0x3f).toInt64))) = z3 at *
  have r1 := rng64 y0
  have r2 := rng64 z3
  have z0' : (0 : Int64).toInt = 0 := rfl
  rw [← Int64.toInt_inj]
  omega
theorem own_ar5 (b0 b1 b2 b3 b4 : Int64) (h0 : 0 ≤ b0.toInt ∧ b0.toInt < 256) (h1 : 0 ≤ b1.toInt ∧ b1.toInt < 256) (h2 : 0 ≤ b2.toInt ∧ b2.toInt < 256) (h3 : 0 ≤ b3.toInt ∧ b3.toInt < 256) (h4 : 0 ≤ b4.toInt ∧ b4.toInt < 256) : (((((((((((0 : Int64) <<< ((8 : Int32) &&& 0x3f).toInt64) ||| b4) <<< ((8 : Int32) &&& 0x3f).toInt64) ||| b3) <<< ((8 : Int32) &&& 0x3f).toInt64) ||| b2) <<< ((8 : Int32) &&& 0x3f).toInt64) ||| b1) <<< ((8 : Int32) &&& 0x3f).toInt64) ||| b0) = ((((((0 : Int64) ||| b0) ||| (b1 <<< ((8 : Int32) &&& 0x3f).toInt64)) ||| (b2 <<< ((16 : Int32) &&& 0x3f).toInt64)) ||| (b3 <<< ((24 : Int32) &&& 0x3f).toInt64)) ||| (b4 <<< ((32 : Int32) &&& 0x3f).toInt64)) := by
  have e4 := own_hs (0 : Int64) b4 h4
  generalize hx4 : ((((0 : Int64) <<< ((8 : Int32) &&& 0x3f).toInt64) ||| b4)) = y4 at *
  have e3 := own_hs y4 b3 h3
  generalize hx3 : (((y4 <<< ((8 : Int32) &&& 0x3f).toInt64) ||| b3)) = y3 at *
  have e2 := own_hs y3 b2 h2
  generalize hx2 : (((y3 <<< ((8 : Int32) &&& 0x3f).toInt64) ||| b2)) = y2 at *
  have e1 := own_hs y2 b1 h1
  generalize hx1 : (((y2 <<< ((8 : Int32) &&& 0x3f).toInt64) ||| b1)) = y1 at *
  have e0 := own_hs y1 b0 h0
  generalize hx0 : (((y1 <<< ((8 : Int32) &&& 0x3f).toInt64) ||| b0)) = y0 at *
  have d0 := own_ls0 (0 : Int64) b0 rfl h0
  generalize hz0 : (((0 : Int64) ||| b0)) = z0 at *
  have d1 := own_ls1 z0 b1 (by omega) h1
  generalize hz1 : ((z0 ||| (b1 <<< ((8 : Int32) &&& 0x3f).toInt64))) = z1 at *
  have d2 := own_ls2 z1 b2 (by omega) h2
  generalize hz2 : ((z1 ||| (b2 <<< ((16 : Int32) &&& 0x3f).toInt64))) = z2 at *
  have d3 := own_ls3 z2 b3 (by omega) h3
  generalize hz3 : ((z2 ||| (b3 <<< ((24 : Int32) &&& 0x3f).toInt64))) = z3 at *
  have d4 := own_ls4 z3 b4 (by omega) h4
  generalize hz4 : ((z3 ||| (b4 <<< ((32 : Int32) &&& 0x3f).toInt64))) = z4 at *
  have r1 := rng64 y0
  have r2 := rng64 z4
  have z0' : (0 : Int64).toInt = 0 := rfl
  rw [← Int64.toInt_inj]
  omega
theorem own_ar6 (b0 b1 b2 b3 b4 b5 : Int64) (h0 : 0 ≤ b0.toInt ∧ b0.toInt < 256) (h1 : 0 ≤ b1.toInt ∧ b1.toInt < 256) (h2 : 0 ≤ b2.toInt ∧ b2.toInt < 256) (h3 : 0 ≤ b3.toInt ∧ b3.toInt < 256) (h4 : 0 ≤ b4.toInt ∧ b4.toInt < 256) (h5 : 0 ≤ b5.toInt ∧ b5.toInt < 256) : (((((((((((((0 : Int64) <<< ((8 : Int32) &&& 0x3f).toInt64) ||| b5) <<< ((8 : Int32) &&& 0x3f).toInt64) ||| b4) <<< ((8 : Int32) &&& 0x3f).toInt64) ||| b3) <<< ((8 : Int32) &&& 0x3f).toInt64) ||| b2) <<< ((8 : Int32) &&& 0x3f).toInt64) ||| b1) <<< ((8 : Int32) &&& 0x3f).toInt64) ||| b0) = (((((((0 : Int64) ||| b0) ||| (b1 <<< ((8 : Int32) &&& 0x3f).toInt64)) ||| (b2 <<< ((16 : Int32) &&& 0x3f).toInt64)) ||| (b3 <<< ((24 : Int32) &&& 0x3f).toInt64)) ||| (b4 <<< ((32 : Int32) &&& 0x3f).toInt64)) ||| (b5 <<< ((40 : Int32) &&& 0x3f).toInt64)) := by
  have e5 := own_hs (0 : Int64) b5 h5
  generalize hx5 : ((((0 : Int64) <<< ((8 : Int32) &&& 0x3f).toInt64) ||| b5)) = y5 at *
  have e4 := own_hs y5 b4 h4
  generalize hx4 : (((y5 <<< ((8 : Int32) &&& 0x3f).toInt64) ||| b4)) = y4 at *
  have e3 := own_hs y4 b3 h3
  generalize hx3 : (((y4 <<< ((8 : Int32) &&& 0x3f).toInt64) ||| b3)) = y3 at *
  have e2 := own_hs y3 b2 h2
  generalize hx2 : (((y3 <<< ((8 : Int32) &&& 0x3f).toInt64) ||| b2)) = y2 at *
  have e1 := own_hs y2 b1 h1
  generalize hx1 : (((y2 <<< ((8 : Int32) &&& 0x3f).toInt64) ||| b1)) = y1 at *
  have e0 := own_hs y1 b0 h0
  generalize hx0 : (((y1 <<< ((8 : Int32) &&& 0x3f).toInt64) ||| b0)) = y0 at *
  have d0 := own_ls0 (0 : Int64) b0 rfl h0
  generalize hz0 : (((0 : Int64) ||| b0)) = z0 at *
  have d1 := own_ls1 z0 b1 (by omega) h1
  generalize hz1 : ((z0 ||| (b1 <<< ((8 : Int32) &&& 0x3f).toInt64))) = z1 at *
  have d2 := own_ls2 z1 b2 (by omega) h2
  generalize hz2 : ((z1 ||| (b2 <<< ((16 : Int32) &&& 0x3f).toInt64))) = z2 at *
  have d3 := own_ls3 z2 b3 (by omega) h3
  generalize hz3 : ((z2 ||| (b3 <<< ((24 : Int32) &&& 0x3f).toInt64))) = z3 at *
  have d4 := own_ls4 z3 b4 (by omega) h4
  generalize hz4 : ((z3 ||| (b4 <<< ((32 : Int32) &&& 0x3f).toInt64))) = z4 at *
  have d5 := own_ls5 z4 b5 (by omega) h5
  generalize hz5 : ((z4 ||| (b5 <<< ((40 : Int32) &&& 0x3f).toInt64))) = z5 at *
  have r1 := rng64 y0
  have r2 := rng64 z5
  have z0' : (0 : Int64).toInt = 0 := rfl
  rw [← Int64.toInt_inj]
  omega
theorem own_ar7 (b0 b1 b2 b3 b4 b5 b6 : Int64) (h0 : 0 ≤ b0.toInt ∧ b0.toInt < 256) (h1 : 0 ≤ b1.toInt ∧ b1.toInt < 256) (h2 : 0 ≤ b2.toInt ∧ b2.toInt < 256) (h3 : 0 ≤ b3.toInt ∧ b3.toInt < 256) (h4 : 0 ≤ b4.toInt ∧ b4.toInt < 256) (h5 : 0 ≤ b5.toInt ∧ b5.toInt < 256) (h6 : 0 ≤ b6.toInt ∧ b6.toInt < 256) : (((((((((((((((0 : Int64) <<< ((8 : Int32) &&& 0x3f).toInt64) ||| b6) <<< ((8 : Int32) &&& 0x3f).toInt64) ||| b5) <<< ((8 : Int32) &&& 0x3f).toInt64) ||| b4) <<< ((8 : Int32) &&& 0x3f).toInt64) ||| b3) <<< ((8 : Int32) &&& 0x3f).toInt64) ||| b2) <<< ((8 : Int32) &&& 0x3f).toInt64) ||| b1) <<< ((8 : Int32) &&& 0x3f).toInt64) ||| b0) = ((((((((0 : Int64) ||| b0) ||| (b1 <<< ((8 : Int32) &&& 0x3f).toInt64)) ||| (b2 <<< ((16 : Int32) &&& 0x3f).toInt64)) ||| (b3 <<< ((24 : Int32) &&& 0x3f).toInt64)) ||| (b4 <<< ((32 : Int32) &&& 0x3f).toInt64)) ||| (b5 <<< ((40 : Int32) &&& 0x3f).toInt64)) ||| (b6 <<< ((48 : Int32) &&& 0x3f).toInt64)) := by
  have e6 := own_hs (0 : Int64) b6 h6
  generalize hx6 : ((((0 : Int64) <<< ((8 : Int32) &&& 0x3f).toInt64) ||| b6)) = y6 at *
  have e5 := own_hs y6 b5 h5
  generalize hx5 : (((y6 <<< ((8 : Int32) &&& 0x3f).toInt64) ||| b5)) = y5 at *
  have e4 := own_hs y5 b4 h4
  generalize hx4 : (((y5 <<< ((8 : Int32) &&& 0x3f).toInt64) ||| b4)) = y4 at *
  have e3 := own_hs y4 b3 h3
  generalize hx3 : (((y4 <<< ((8 : Int32) &&& 0x3f).toInt64) ||| b3)) = y3 at *
  have e2 := own_hs y3 b2 h2
  generalize hx2 : (((y3 <<< ((8 : Int32) &&& 0x3f).toInt64) ||| b2)) = y2 at *
  have e1 := own_hs y2 b1 h1
  generalize hx1 : (((y2 <<< ((8 : Int32) &&& 0x3f).toInt64) ||| b1)) = y1 at *
  have e0 := own_hs y1 b0 h0
  generalize hx0 : (((y1 <<< ((8 : Int32) &&& 0x3f).toInt64) ||| b0)) = y0 at *
  have d0 := own_ls0 (0 : Int64) b0 rfl h0
  generalize hz0 : (((0 : Int64) ||| b0)) = z0 at *
  have d1 := own_ls1 z0 b1 (by omega) h1
  generalize hz1 : ((z0 ||| (b1 <<< ((8 : Int32) &&& 0x3f).toInt64))) = z1 at *
  have d2 := own_ls2 z1 b2 (by omega) h2
  generalize hz2 : ((z1 ||| (b2 <<< ((16 : Int32) &&& 0x3f).toInt64))) = z2 at *
  have d3 := own_ls3 z2 b3 (by omega) h3
  generalize hz3 : ((z2 ||| (b3 <<< ((24 : Int32) &&& 0x3f).toInt64))) = z3 at *
  have d4 := own_ls4 z3 b4 (by omega) h4
  generalize hz4 : ((z3 ||| (b4 <<< ((32 : Int32) &&& 0x3f).toInt64))) = z4 at *
  have d5 := own_ls5 z4 b5 (by omega) h5
  generalize hz5 : ((z4 ||| (b5 <<< ((40 : Int32) &&& 0x3f).toInt64))) = z5 at *
  have d6 := own_ls6 z5 b6 (by omega) h6
  generalize hz6 : ((z5 ||| (b6 <<< ((48 : Int32) &&& 0x3f).toInt64))) = z6 at *
  have r1 := rng64 y0
  have r2 := rng64 z6
  have z0' : (0 : Int64).toInt = 0 := rfl
  rw [← Int64.toInt_inj]
  omega
theorem own_ar8 (b0 b1 b2 b3 b4 b5 b6 b7 : Int64) (h0 : 0 ≤ b0.toInt ∧ b0.toInt < 256) (h1 : 0 ≤ b1.toInt ∧ b1.toInt < 256) (h2 : 0 ≤ b2.toInt ∧ b2.toInt < 256) (h3 : 0 ≤ b3.toInt ∧ b3.toInt < 256) (h4 : 0 ≤ b4.toInt ∧ b4.toInt < 256) (h5 : 0 ≤ b5.toInt ∧ b5.toInt < 256) (h6 : 0 ≤ b6.toInt ∧ b6.toInt < 256) (h7 : 0 ≤ b7.toInt ∧ b7.toInt < 256) : (((((((((((((((((0 : Int64) <<< ((8 : Int32) &&& 0x3f).toInt64) ||| b7) <<< ((8 : Int32) &&& 0x3f).toInt64) ||| b6) <<< ((8 : Int32) &&& 0x3f).toInt64) ||| b5) <<< ((8 : Int32) &&& 0x3f).toInt64) ||| b4) <<< ((8 : Int32) &&& 0x3f).toInt64) ||| b3) <<< ((8 : Int32) &&& 0x3f).toInt64) ||| b2) <<< ((8 : Int32) &&& 0x3f).toInt64) ||| b1) <<< ((8 : Int32) &&& 0x3f).toInt64) ||| b0) = (((((((((0 : Int64) ||| b0) ||| (b1 <<< ((8 : Int32) &&& 0x3f).toInt64)) ||| (b2 <<< ((16 : Int32) &&& 0x3f).toInt64)) ||| (b3 <<< ((24 : Int32) &&& 0x3f).toInt64)) ||| (b4 <<< ((32 : Int32) &&& 0x3f).toInt64)) ||| (b5 <<< ((40 : Int32) &&& 0x3f).toInt64)) ||| (b6 <<< ((48 : Int32) &&& 0x3f).toInt64)) ||| (b7 <<< ((56 : Int32) &&& 0x3f).toInt64)) := by
  have e7 := own_hs (0 : Int64) b7 h7
  generalize hx7 : ((((0 : Int64) <<< ((8 : Int32) &&& 0x3f).toInt64) ||| b7)) = y7 at *
  have e6 := own_hs y7 b6 h6
  generalize hx6 : (((y7 <<< ((8 : Int32) &&& 0x3f).toInt64) ||| b6)) = y6 at *
  have e5 := own_hs y6 b5 h5
  generalize hx5 : (((y6 <<< ((8 : Int32) &&& 0x3f).toInt64) ||| b5)) = y5 at *
  have e4 := own_hs y5 b4 h4
  generalize hx4 : (((y5 <<< ((8 : Int32) &&& 0x3f).toInt64) ||| b4)) = y4 at *
  have e3 := own_hs y4 b3 h3
  generalize hx3 : (((y4 <<< ((8 : Int32) &&& 0x3f).toInt64) ||| b3)) = y3 at *
  have e2 := own_hs y3 b2 h2
  generalize hx2 : (((y3 <<< ((8 : Int32) &&& 0x3f).toInt64) ||| b2)) = y2 at *
  have e1 := own_hs y2 b1 h1
  generalize hx1 : (((y2 <<< ((8 : Int32) &&& 0x3f).toInt64) ||| b1)) = y1 at *
  have e0 := own_hs y1 b0 h0
  generalize hx0 : (((y1 <<< ((8 : Int32) &&& 0x3f).toInt64) ||| b0)) = y0 at *
  have d0 := own_ls0 (0 : Int64) b0 rfl h0
  generalize hz0 : (((0 : Int64) ||| b0)) = z0 at *
  have d1 := own_ls1 z0 b1 (by omega) h1
  generalize hz1 : ((z0 ||| (b1 <<< ((8 : Int32) &&& 0x3f).toInt64))) = z1 at *
  have d2 := own_ls2 z1 b2 (by omega) h2
  generalize hz2 : ((z1 ||| (b2 <<< ((16 : Int32) &&& 0x3f).toInt64))) = z2 at *
  have d3 := own_ls3 z2 b3 (by omega) h3
  generalize hz3 : ((z2 ||| (b3 <<< ((24 : Int32) &&& 0x3f).toInt64))) = z3 at *
  have d4 := own_ls4 z3 b4 (by omega) h4
  generalize hz4 : ((z3 ||| (b4 <<< ((32 : Int32) &&& 0x3f).toInt64))) = z4 at *
  have d5 := own_ls5 z4 b5 (by omega) h5
  generalize hz5 : ((z4 ||| (b5 <<< ((40 : Int32) &&& 0x3f).toInt64))) = z5 at *
  have d6 := own_ls6 z5 b6 (by omega) h6
  generalize hz6 : ((z5 ||| (b6 <<< ((48 : Int32) &&& 0x3f).toInt64))) = z6 at *
  have d7 := own_ls7 z6 b7 (by omega) h7
  generalize hz7 : ((z6 ||| (b7 <<< ((56 : Int32) &&& 0x3f).toInt64))) = z7 at *
  have r1 := rng64 y0
  have r2 := rng64 z7
  have z0' : (0 : Int64).toInt = 0 := rfl
  rw [← Int64.toInt_inj]
  omega
theorem own_of2 (off : Int32) : off + 1 + 1 = off + 2 := by
  rw [Int32.add_assoc]; rfl
theorem own_of3 (off : Int32) : off + 2 + 1 = off + 3 := by
  rw [Int32.add_assoc]; rfl
theorem own_of4 (off : Int32) : off + 3 + 1 = off + 4 := by
  rw [Int32.add_assoc]; rfl
theorem own_of5 (off : Int32) : off + 4 + 1 = off + 5 := by
  rw [Int32.add_assoc]; rfl
theorem own_of6 (off : Int32) : off + 5 + 1 = off + 6 := by
  rw [Int32.add_assoc]; rfl
theorem own_of7 (off : Int32) : off + 6 + 1 = off + 7 := by
  rw [Int32.add_assoc]; rfl
theorem own_Hn0 (G : Nat → Int32) (off : Int32) : own_H G off 0 = own_le8 G off (0 : Int32) := by
  unfold own_le8 own_lk own_l0
  rw [if_neg (by decide : ¬ ((7 : Int32) < 0))]
  rw [if_neg (by decide : ¬ ((6 : Int32) < 0))]
  rw [if_neg (by decide : ¬ ((5 : Int32) < 0))]
  rw [if_neg (by decide : ¬ ((4 : Int32) < 0))]
  rw [if_neg (by decide : ¬ ((3 : Int32) < 0))]
  rw [if_neg (by decide : ¬ ((2 : Int32) < 0))]
  rw [if_neg (by decide : ¬ ((1 : Int32) < 0))]
  rw [if_neg (by decide : ¬ ((0 : Int32) < 0))]
  simp only [own_H]
theorem own_Hn1 (G : Nat → Int32) (off : Int32) : own_H G off 1 = own_le8 G off (1 : Int32) := by
  unfold own_le8 own_lk own_l0
  rw [if_neg (by decide : ¬ ((7 : Int32) < 1))]
  rw [if_neg (by decide : ¬ ((6 : Int32) < 1))]
  rw [if_neg (by decide : ¬ ((5 : Int32) < 1))]
  rw [if_neg (by decide : ¬ ((4 : Int32) < 1))]
  rw [if_neg (by decide : ¬ ((3 : Int32) < 1))]
  rw [if_neg (by decide : ¬ ((2 : Int32) < 1))]
  rw [if_neg (by decide : ¬ ((1 : Int32) < 1))]
  rw [if_pos (by decide : (0 : Int32) < 1)]
  simp only [own_H]
  exact own_ar1 (own_b G off) (own_br G _)
theorem own_Hn2 (G : Nat → Int32) (off : Int32) : own_H G off 2 = own_le8 G off (2 : Int32) := by
  unfold own_le8 own_lk own_l0
  rw [if_neg (by decide : ¬ ((7 : Int32) < 2))]
  rw [if_neg (by decide : ¬ ((6 : Int32) < 2))]
  rw [if_neg (by decide : ¬ ((5 : Int32) < 2))]
  rw [if_neg (by decide : ¬ ((4 : Int32) < 2))]
  rw [if_neg (by decide : ¬ ((3 : Int32) < 2))]
  rw [if_neg (by decide : ¬ ((2 : Int32) < 2))]
  rw [if_pos (by decide : (1 : Int32) < 2)]
  rw [if_pos (by decide : (0 : Int32) < 2)]
  simp only [own_H]
  exact own_ar2 (own_b G off) (own_b G (off + 1)) (own_br G _) (own_br G _)
theorem own_Hn3 (G : Nat → Int32) (off : Int32) : own_H G off 3 = own_le8 G off (3 : Int32) := by
  unfold own_le8 own_lk own_l0
  rw [if_neg (by decide : ¬ ((7 : Int32) < 3))]
  rw [if_neg (by decide : ¬ ((6 : Int32) < 3))]
  rw [if_neg (by decide : ¬ ((5 : Int32) < 3))]
  rw [if_neg (by decide : ¬ ((4 : Int32) < 3))]
  rw [if_neg (by decide : ¬ ((3 : Int32) < 3))]
  rw [if_pos (by decide : (2 : Int32) < 3)]
  rw [if_pos (by decide : (1 : Int32) < 3)]
  rw [if_pos (by decide : (0 : Int32) < 3)]
  simp only [own_H, own_of2]
  exact own_ar3 (own_b G off) (own_b G (off + 1)) (own_b G (off + 2)) (own_br G _) (own_br G _) (own_br G _)
theorem own_Hn4 (G : Nat → Int32) (off : Int32) : own_H G off 4 = own_le8 G off (4 : Int32) := by
  unfold own_le8 own_lk own_l0
  rw [if_neg (by decide : ¬ ((7 : Int32) < 4))]
  rw [if_neg (by decide : ¬ ((6 : Int32) < 4))]
  rw [if_neg (by decide : ¬ ((5 : Int32) < 4))]
  rw [if_neg (by decide : ¬ ((4 : Int32) < 4))]
  rw [if_pos (by decide : (3 : Int32) < 4)]
  rw [if_pos (by decide : (2 : Int32) < 4)]
  rw [if_pos (by decide : (1 : Int32) < 4)]
  rw [if_pos (by decide : (0 : Int32) < 4)]
  simp only [own_H, own_of2, own_of3]
  exact own_ar4 (own_b G off) (own_b G (off + 1)) (own_b G (off + 2)) (own_b G (off + 3)) (own_br G _) (own_br G _) (own_br G _) (own_br G _)
theorem own_Hn5 (G : Nat → Int32) (off : Int32) : own_H G off 5 = own_le8 G off (5 : Int32) := by
  unfold own_le8 own_lk own_l0
  rw [if_neg (by decide : ¬ ((7 : Int32) < 5))]
  rw [if_neg (by decide : ¬ ((6 : Int32) < 5))]
  rw [if_neg (by decide : ¬ ((5 : Int32) < 5))]
  rw [if_pos (by decide : (4 : Int32) < 5)]
  rw [if_pos (by decide : (3 : Int32) < 5)]
  rw [if_pos (by decide : (2 : Int32) < 5)]
  rw [if_pos (by decide : (1 : Int32) < 5)]
  rw [if_pos (by decide : (0 : Int32) < 5)]
  simp only [own_H, own_of2, own_of3, own_of4]
  exact own_ar5 (own_b G off) (own_b G (off + 1)) (own_b G (off + 2)) (own_b G (off + 3)) (own_b G (off + 4)) (own_br G _) (own_br G _) (own_br G _) (own_br G _) (own_br G _)
theorem own_Hn6 (G : Nat → Int32) (off : Int32) : own_H G off 6 = own_le8 G off (6 : Int32) := by
  unfold own_le8 own_lk own_l0
  rw [if_neg (by decide : ¬ ((7 : Int32) < 6))]
  rw [if_neg (by decide : ¬ ((6 : Int32) < 6))]
  rw [if_pos (by decide : (5 : Int32) < 6)]
  rw [if_pos (by decide : (4 : Int32) < 6)]
  rw [if_pos (by decide : (3 : Int32) < 6)]
  rw [if_pos (by decide : (2 : Int32) < 6)]
  rw [if_pos (by decide : (1 : Int32) < 6)]
  rw [if_pos (by decide : (0 : Int32) < 6)]
  simp only [own_H, own_of2, own_of3, own_of4, own_of5]
  exact own_ar6 (own_b G off) (own_b G (off + 1)) (own_b G (off + 2)) (own_b G (off + 3)) (own_b G (off + 4)) (own_b G (off + 5)) (own_br G _) (own_br G _) (own_br G _) (own_br G _) (own_br G _) (own_br G _)
theorem own_Hn7 (G : Nat → Int32) (off : Int32) : own_H G off 7 = own_le8 G off (7 : Int32) := by
  unfold own_le8 own_lk own_l0
  rw [if_neg (by decide : ¬ ((7 : Int32) < 7))]
  rw [if_pos (by decide : (6 : Int32) < 7)]
  rw [if_pos (by decide : (5 : Int32) < 7)]
  rw [if_pos (by decide : (4 : Int32) < 7)]
  rw [if_pos (by decide : (3 : Int32) < 7)]
  rw [if_pos (by decide : (2 : Int32) < 7)]
  rw [if_pos (by decide : (1 : Int32) < 7)]
  rw [if_pos (by decide : (0 : Int32) < 7)]
  simp only [own_H, own_of2, own_of3, own_of4, own_of5, own_of6]
  exact own_ar7 (own_b G off) (own_b G (off + 1)) (own_b G (off + 2)) (own_b G (off + 3)) (own_b G (off + 4)) (own_b G (off + 5)) (own_b G (off + 6)) (own_br G _) (own_br G _) (own_br G _) (own_br G _) (own_br G _) (own_br G _) (own_br G _)
theorem own_Hn8 (G : Nat → Int32) (off : Int32) : own_H G off 8 = own_le8 G off (8 : Int32) := by
  unfold own_le8 own_lk own_l0
  rw [if_pos (by decide : (7 : Int32) < 8)]
  rw [if_pos (by decide : (6 : Int32) < 8)]
  rw [if_pos (by decide : (5 : Int32) < 8)]
  rw [if_pos (by decide : (4 : Int32) < 8)]
  rw [if_pos (by decide : (3 : Int32) < 8)]
  rw [if_pos (by decide : (2 : Int32) < 8)]
  rw [if_pos (by decide : (1 : Int32) < 8)]
  rw [if_pos (by decide : (0 : Int32) < 8)]
  simp only [own_H, own_of2, own_of3, own_of4, own_of5, own_of6, own_of7]
  exact own_ar8 (own_b G off) (own_b G (off + 1)) (own_b G (off + 2)) (own_b G (off + 3)) (own_b G (off + 4)) (own_b G (off + 5)) (own_b G (off + 6)) (own_b G (off + 7)) (own_br G _) (own_br G _) (own_br G _) (own_br G _) (own_br G _) (own_br G _) (own_br G _) (own_br G _)
theorem own_Hle (G : Nat → Int32) (off n : Int32) (k : Nat) (hk : k ≤ 8) (hn : n.toInt = k) : own_H G off k = own_le8 G off n := by
  have e : n = Int32.ofNat k := by
    rw [← Int32.toInt_inj, hn, Int32.toInt_ofNat_of_lt (by omega)]
  subst e
  match k, hk with
  | 0, _ => exact own_Hn0 G off
  | 1, _ => exact own_Hn1 G off
  | 2, _ => exact own_Hn2 G off
  | 3, _ => exact own_Hn3 G off
  | 4, _ => exact own_Hn4 G off
  | 5, _ => exact own_Hn5 G off
  | 6, _ => exact own_Hn6 G off
  | 7, _ => exact own_Hn7 G off
  | 8, _ => exact own_Hn8 G off
theorem d9_111 : decode prog_186_method_3_code 111 = .ok (.iload 19, 2) := by decide +kernel
theorem d9_113 : decode prog_186_method_3_code 113 = .ok (.iload 17, 2) := by decide +kernel
theorem d9_115 : decode prog_186_method_3_code 115 = .ok (.if_icmp .lt 26, 3) := by decide +kernel
theorem d9_118 : decode prog_186_method_3_code 118 = .ok (.lload 15, 2) := by decide +kernel
theorem d9_120 : decode prog_186_method_3_code 120 = .ok (.bipush 8, 2) := by decide +kernel
theorem d9_122 : decode prog_186_method_3_code 122 = .ok (.lshl, 1) := by decide +kernel
theorem d9_123 : decode prog_186_method_3_code 123 = .ok (.aload_n 1, 1) := by decide +kernel
theorem d9_124 : decode prog_186_method_3_code 124 = .ok (.iload 19, 2) := by decide +kernel
theorem d9_126 : decode prog_186_method_3_code 126 = .ok (.baload, 1) := by decide +kernel
theorem d9_127 : decode prog_186_method_3_code 127 = .ok (.sipush 255, 3) := by decide +kernel
theorem d9_130 : decode prog_186_method_3_code 130 = .ok (.iand, 1) := by decide +kernel
theorem d9_131 : decode prog_186_method_3_code 131 = .ok (.i2l, 1) := by decide +kernel
theorem d9_132 : decode prog_186_method_3_code 132 = .ok (.lor, 1) := by decide +kernel
theorem d9_133 : decode prog_186_method_3_code 133 = .ok (.lstore 15, 2) := by decide +kernel
theorem d9_135 : decode prog_186_method_3_code 135 = .ok (.iinc 19 (-1), 3) := by decide +kernel
theorem d9_138 : decode prog_186_method_3_code 138 = .ok (.goto (-27), 3) := by decide +kernel
section OwnInner
variable {p : Program} {l : Launch} {e : Env} {R : Room} {s : State} {m : MethodId} {args : Array Value} {below : List Frame} {meth : Method} {c : Code} {T : State} {locs : List Loc} {cells slots : Nat} {Z : State} {a0 : Array Value} {h : Heap} {Q : Option Value → Heap → List Loc → Prop} {ce sl : Nat} {pc pc' : Nat} {Ls : Array Slot} {st : List Value}
set_option maxRecDepth 65536 in
set_option maxHeartbeats 40000000 in
theorem own_inner (X : Stand p l e R s m args below meth c T locs cells slots) (hx : p.tables.exec = Jvm.exec) (hby : c.code = prog_186_method_3_code) (hZ : Z.Warmed39 s.vm) (eT : T.heap = h) (ra rb : Addr) (gg : Nat → Int32) (A : own_AI Z h rb .byte (24 : Int32) gg) (u2 u3 ln bk ii off lim : Int32) (v0 v1 v2 v3 : Int64) (h2 : 0 ≤ off.toInt) : ∀ (r : Nat) (j : Int32) (cnt : Nat), j.toInt + 1 = off.toInt + r → off.toInt + r + cnt ≤ 24 →
    own_G p e below s Q ce sl (T.setTop (mkF m 141 #[vR ra, vR rb, vI u2, vI u3, vL v0, vS, vL v1, vS, vL v2, vS, vL v3, vS, vI ln, vI bk, vI ii, vL (own_H gg off (r + cnt)), vS, vI off, vI lim, vI (off + (-1 : Int32))] [])) → own_G p e below s Q ce sl (T.setTop (mkF m 111 #[vR ra, vR rb, vI u2, vI u3, vL v0, vS, vL v1, vS, vL v2, vS, vL v3, vS, vI ln, vI bk, vI ii, vL (own_H gg (j + 1) cnt), vS, vI off, vI lim, vI j] [])) := by
  intro r
  induction r with
  | zero =>
    intro j cnt h1 h3 k
    have hj : j < off := by rw [Int32.lt_iff_toInt_lt]; omega
    have hc := c_iadd off (-1)
    have hr := rng32 (off + -1)
    have hc2 := c_iadd j 1
    have hr2 := rng32 (j + 1)
    have ho := rng32 off
    simp only [Int32.reduceToInt] at hc hc2
    have e1 : off + (-1 : Int32) = j := by rw [← Int32.toInt_inj]; omega
    have e2 : j + 1 = off := by rw [← Int32.toInt_inj]; omega
    rw [e1, Nat.zero_add, ← e2] at k
    refine own_iload X hx (hb hby d9_111) rfl (pc' := 113) rfl ?_
    refine own_iload X hx (hb hby d9_113) rfl (pc' := 115) rfl ?_
    refine own_icmpT X hx (hb hby d9_115) (tlt hj).1 (by decide) (pc' := 141) rfl ?_
    rw [← e2]
    exact k
  | succ r ih =>
    intro j cnt h1 h3 k
    have hj : ¬ j < off := by rw [Int32.lt_iff_toInt_lt]; omega
    have hib : ¬ j < 0 ∧ j < (24 : Int32) := by simp only [Int32.lt_iff_toInt_lt, Int32.reduceToInt]; omega
    have hc := c_iadd j (-1)
    have hr := rng32 (j + -1)
    have hc2 := c_iadd (j + -1) 1
    have hr2 := rng32 ((j + -1) + 1)
    have hj2 := rng32 j
    simp only [Int32.reduceToInt] at hc hc2
    have e1 : (j + (-1 : Int32)) + 1 = j := by rw [← Int32.toInt_inj]; omega
    refine own_iload X hx (hb hby d9_111) rfl (pc' := 113) rfl ?_
    refine own_iload X hx (hb hby d9_113) rfl (pc' := 115) rfl ?_
    refine own_icmpF X hx (hb hby d9_115) (flt hj).1 (pc' := 118) rfl ?_
    refine own_lload X hx (hb hby d9_118) rfl (pc' := 120) rfl ?_
    refine own_bipush X hx (hb hby d9_120) (z := (8 : Int32)) (by decide) (pc' := 122) rfl ?_
    refine own_lshl X hx (hb hby d9_122) (pc' := 123) rfl ?_
    refine own_aloadN X hx (hb hby d9_123) rfl rfl (pc' := 124) rfl ?_
    refine own_iload X hx (hb hby d9_124) rfl (pc' := 126) rfl ?_
    refine own_baload X hx hZ eT A (x := (gg j.toNatClampNeg)) hib rfl (hb hby d9_126) (pc' := 127) rfl ?_
    refine own_sipush X hx (hb hby d9_127) (z := (255 : Int32)) (by decide) (pc' := 130) rfl ?_
    refine own_iand X hx (hb hby d9_130) (pc' := 131) rfl ?_
    refine own_i2l X hx (hb hby d9_131) (pc' := 132) rfl ?_
    refine own_lor X hx (hb hby d9_132) (pc' := 133) rfl ?_
    refine own_lstore X hx (hb hby d9_133) (l' := #[vR ra, vR rb, vI u2, vI u3, vL v0, vS, vL v1, vS, vL v2, vS, vL v3, vS, vI ln, vI bk, vI ii, vL (((own_H gg (j + 1) cnt) <<< ((8 : Int32) &&& 0x3f).toInt64) ||| (((gg j.toNatClampNeg) &&& (255 : Int32)).toInt64)), vS, vI off, vI lim, vI j]) rfl (pc' := 135) rfl ?_
    refine own_iinc X hx (hb hby d9_135) rfl (z := (-1 : Int32)) rfl (l' := #[vR ra, vR rb, vI u2, vI u3, vL v0, vS, vL v1, vS, vL v2, vS, vL v3, vS, vI ln, vI bk, vI ii, vL (((own_H gg (j + 1) cnt) <<< ((8 : Int32) &&& 0x3f).toInt64) ||| (((gg j.toNatClampNeg) &&& (255 : Int32)).toInt64)), vS, vI off, vI lim, vI (j + (-1 : Int32))]) rfl (pc' := 138) rfl ?_
    refine own_goto X hx (hb hby d9_138) (by decide) (pc' := 111) rfl ?_
    have q := ih (j + (-1 : Int32)) (cnt + 1) (by omega) (by omega) (by rw [show r + (cnt + 1) = r + 1 + cnt by omega]; exact k)
    rw [e1] at q
    exact q
end OwnInner
theorem own_r13 (x : Int64) : ((x <<< ((13 : Int32) &&& 0x3f).toInt64) ||| ((x.toUInt64 >>> ((51 : Int32) &&& 0x3f).toInt64.toUInt64).toInt64)) = own_rot x (13 : Int32) := by
  unfold own_rot
  rw [show (64 : Int32) - (13 : Int32) = (51 : Int32) by decide]
theorem own_r16 (x : Int64) : ((x <<< ((16 : Int32) &&& 0x3f).toInt64) ||| ((x.toUInt64 >>> ((48 : Int32) &&& 0x3f).toInt64.toUInt64).toInt64)) = own_rot x (16 : Int32) := by
  unfold own_rot
  rw [show (64 : Int32) - (16 : Int32) = (48 : Int32) by decide]
theorem own_r17 (x : Int64) : ((x <<< ((17 : Int32) &&& 0x3f).toInt64) ||| ((x.toUInt64 >>> ((47 : Int32) &&& 0x3f).toInt64.toUInt64).toInt64)) = own_rot x (17 : Int32) := by
  unfold own_rot
  rw [show (64 : Int32) - (17 : Int32) = (47 : Int32) by decide]
theorem own_r21 (x : Int64) : ((x <<< ((21 : Int32) &&& 0x3f).toInt64) ||| ((x.toUInt64 >>> ((43 : Int32) &&& 0x3f).toInt64.toUInt64).toInt64)) = own_rot x (21 : Int32) := by
  unfold own_rot
  rw [show (64 : Int32) - (21 : Int32) = (43 : Int32) by decide]
theorem own_r32 (x : Int64) : ((x <<< ((32 : Int32) &&& 0x3f).toInt64) ||| ((x.toUInt64 >>> ((32 : Int32) &&& 0x3f).toInt64.toUInt64).toInt64)) = own_rot x (32 : Int32) := by
  unfold own_rot
  rw [show (64 : Int32) - (32 : Int32) = (32 : Int32) by decide]
theorem own_sub (a b : Int32) (h : 0 ≤ b.toInt ∧ b.toInt ≤ a.toInt) : (a - b).toInt = a.toInt - b.toInt := by
  have h1 := c_isub a b
  have h2 := rng32 (a - b)
  have h3 := rng32 a
  omega
theorem own_addk (s k : Int32) (h : 0 ≤ s.toInt ∧ s.toInt ≤ 24) (hk : 0 ≤ k.toInt ∧ k.toInt ≤ 24) : (s + k).toInt = s.toInt + k.toInt := by
  have h1 := c_iadd s k
  have h2 := rng32 (s + k)
  omega
theorem own_blk {l nb : Int32} (hl : 0 ≤ l.toInt) (hD : (l / (8 : Int32)) = nb) : nb.toInt * 8 ≤ l.toInt ∧ l.toInt < nb.toInt * 8 + 8 := by
  have h := (c_idiv l 8 8 rfl (by decide)).1 hl
  rw [hD] at h
  omega
theorem own_offk (s i : Int32) (h : 0 ≤ s.toInt ∧ s.toInt ≤ 24) (hi : 0 ≤ i.toInt ∧ i.toInt ≤ 3) : (s + (i * (8 : Int32))).toInt = s.toInt + i.toInt * 8 := by
  have h1 := c_imul i 8
  have h2 := rng32 (i * 8)
  have h3 := c_iadd s (i * 8)
  have h4 := rng32 (s + (i * 8))
  simp only [Int32.reduceToInt] at h1
  omega
theorem own_j (lim off : Int32) (N : Nat) (h : lim.toInt = off.toInt + N) (h0 : 0 ≤ off.toInt) (h24 : lim.toInt ≤ 24) : (lim - (1 : Int32)).toInt + 1 = off.toInt + N := by
  have h1 := c_isub lim 1
  have h2 := rng32 (lim - 1)
  simp only [Int32.reduceToInt] at h1
  omega
theorem d9_0 : decode prog_186_method_3_code 0 = .ok (.aload_n 0, 1) := by decide +kernel
theorem d9_1 : decode prog_186_method_3_code 1 = .ok (.getfield 7, 3) := by decide +kernel
theorem d9_4 : decode prog_186_method_3_code 4 = .ok (.ldc2_w 29, 3) := by decide +kernel
theorem ow_45 {Z : State} {a0 : Array Value} (hw : ∀ d ∈ tables_1, d.before a0 Z = true) : (Jvm.Cond.constantLong "com/example/structlane/structlane/header/SipHash" (29 : Nat) (8317987319222330741 : Int64)).before a0 Z = true := hw _ (List.mem_of_getElem? (i := 45) rfl)
theorem d9_7 : decode prog_186_method_3_code 7 = .ok (.lxor, 1) := by decide +kernel
theorem d9_8 : decode prog_186_method_3_code 8 = .ok (.lstore 4, 2) := by decide +kernel
theorem d9_10 : decode prog_186_method_3_code 10 = .ok (.aload_n 0, 1) := by decide +kernel
theorem d9_11 : decode prog_186_method_3_code 11 = .ok (.getfield 13, 3) := by decide +kernel
theorem d9_14 : decode prog_186_method_3_code 14 = .ok (.ldc2_w 31, 3) := by decide +kernel
theorem ow_46 {Z : State} {a0 : Array Value} (hw : ∀ d ∈ tables_1, d.before a0 Z = true) : (Jvm.Cond.constantLong "com/example/structlane/structlane/header/SipHash" (31 : Nat) (7237128888997146477 : Int64)).before a0 Z = true := hw _ (List.mem_of_getElem? (i := 46) rfl)
theorem d9_17 : decode prog_186_method_3_code 17 = .ok (.lxor, 1) := by decide +kernel
theorem d9_18 : decode prog_186_method_3_code 18 = .ok (.lstore 6, 2) := by decide +kernel
theorem d9_20 : decode prog_186_method_3_code 20 = .ok (.aload_n 0, 1) := by decide +kernel
theorem d9_21 : decode prog_186_method_3_code 21 = .ok (.getfield 7, 3) := by decide +kernel
theorem d9_24 : decode prog_186_method_3_code 24 = .ok (.ldc2_w 33, 3) := by decide +kernel
theorem ow_47 {Z : State} {a0 : Array Value} (hw : ∀ d ∈ tables_1, d.before a0 Z = true) : (Jvm.Cond.constantLong "com/example/structlane/structlane/header/SipHash" (33 : Nat) (7816392313619706465 : Int64)).before a0 Z = true := hw _ (List.mem_of_getElem? (i := 47) rfl)
theorem d9_27 : decode prog_186_method_3_code 27 = .ok (.lxor, 1) := by decide +kernel
theorem d9_28 : decode prog_186_method_3_code 28 = .ok (.lstore 8, 2) := by decide +kernel
theorem d9_30 : decode prog_186_method_3_code 30 = .ok (.aload_n 0, 1) := by decide +kernel
theorem d9_31 : decode prog_186_method_3_code 31 = .ok (.getfield 13, 3) := by decide +kernel
theorem d9_34 : decode prog_186_method_3_code 34 = .ok (.ldc2_w 35, 3) := by decide +kernel
theorem ow_48 {Z : State} {a0 : Array Value} (hw : ∀ d ∈ tables_1, d.before a0 Z = true) : (Jvm.Cond.constantLong "com/example/structlane/structlane/header/SipHash" (35 : Nat) (8387220255154660723 : Int64)).before a0 Z = true := hw _ (List.mem_of_getElem? (i := 48) rfl)
theorem d9_37 : decode prog_186_method_3_code 37 = .ok (.lxor, 1) := by decide +kernel
theorem d9_38 : decode prog_186_method_3_code 38 = .ok (.lstore 10, 2) := by decide +kernel
theorem d9_40 : decode prog_186_method_3_code 40 = .ok (.iload_n 3, 1) := by decide +kernel
theorem d9_41 : decode prog_186_method_3_code 41 = .ok (.iload_n 2, 1) := by decide +kernel
theorem d9_42 : decode prog_186_method_3_code 42 = .ok (.isub, 1) := by decide +kernel
theorem d9_43 : decode prog_186_method_3_code 43 = .ok (.istore 12, 2) := by decide +kernel
theorem d9_45 : decode prog_186_method_3_code 45 = .ok (.iload 12, 2) := by decide +kernel
theorem d9_47 : decode prog_186_method_3_code 47 = .ok (.bipush 8, 2) := by decide +kernel
theorem d9_49 : decode prog_186_method_3_code 49 = .ok (.idiv, 1) := by decide +kernel
theorem d9_50 : decode prog_186_method_3_code 50 = .ok (.iconst 1, 1) := by decide +kernel
theorem d9_51 : decode prog_186_method_3_code 51 = .ok (.iadd, 1) := by decide +kernel
theorem d9_52 : decode prog_186_method_3_code 52 = .ok (.istore 13, 2) := by decide +kernel
theorem d9_54 : decode prog_186_method_3_code 54 = .ok (.iconst 0, 1) := by decide +kernel
theorem d9_55 : decode prog_186_method_3_code 55 = .ok (.istore 14, 2) := by decide +kernel
theorem d9_57 : decode prog_186_method_3_code 57 = .ok (.iload 14, 2) := by decide +kernel
theorem d9_59 : decode prog_186_method_3_code 59 = .ok (.iload 13, 2) := by decide +kernel
theorem d9_61 : decode prog_186_method_3_code 61 = .ok (.iconst 3, 1) := by decide +kernel
theorem d9_62 : decode prog_186_method_3_code 62 = .ok (.iadd, 1) := by decide +kernel
theorem d9_63 : decode prog_186_method_3_code 63 = .ok (.if_icmp .ge 270, 3) := by decide +kernel
theorem d9_66 : decode prog_186_method_3_code 66 = .ok (.lconst 0, 1) := by decide +kernel
theorem d9_67 : decode prog_186_method_3_code 67 = .ok (.lstore 15, 2) := by decide +kernel
theorem d9_69 : decode prog_186_method_3_code 69 = .ok (.iload 14, 2) := by decide +kernel
theorem d9_71 : decode prog_186_method_3_code 71 = .ok (.iload 13, 2) := by decide +kernel
theorem d9_73 : decode prog_186_method_3_code 73 = .ok (.if_icmp .ge 91, 3) := by decide +kernel
theorem d9_76 : decode prog_186_method_3_code 76 = .ok (.iload_n 2, 1) := by decide +kernel
theorem d9_77 : decode prog_186_method_3_code 77 = .ok (.iload 14, 2) := by decide +kernel
theorem d9_79 : decode prog_186_method_3_code 79 = .ok (.bipush 8, 2) := by decide +kernel
theorem d9_81 : decode prog_186_method_3_code 81 = .ok (.imul, 1) := by decide +kernel
theorem d9_82 : decode prog_186_method_3_code 82 = .ok (.iadd, 1) := by decide +kernel
theorem d9_83 : decode prog_186_method_3_code 83 = .ok (.istore 17, 2) := by decide +kernel
theorem d9_85 : decode prog_186_method_3_code 85 = .ok (.iload_n 3, 1) := by decide +kernel
theorem d9_86 : decode prog_186_method_3_code 86 = .ok (.iload 17, 2) := by decide +kernel
theorem d9_88 : decode prog_186_method_3_code 88 = .ok (.isub, 1) := by decide +kernel
theorem d9_89 : decode prog_186_method_3_code 89 = .ok (.bipush 8, 2) := by decide +kernel
theorem d9_91 : decode prog_186_method_3_code 91 = .ok (.if_icmp .ge 7, 3) := by decide +kernel
theorem d9_94 : decode prog_186_method_3_code 94 = .ok (.iload_n 3, 1) := by decide +kernel
theorem d9_95 : decode prog_186_method_3_code 95 = .ok (.goto 8, 3) := by decide +kernel
theorem d9_103 : decode prog_186_method_3_code 103 = .ok (.istore 18, 2) := by decide +kernel
theorem d9_105 : decode prog_186_method_3_code 105 = .ok (.iload 18, 2) := by decide +kernel
theorem d9_107 : decode prog_186_method_3_code 107 = .ok (.iconst 1, 1) := by decide +kernel
theorem d9_108 : decode prog_186_method_3_code 108 = .ok (.isub, 1) := by decide +kernel
theorem d9_109 : decode prog_186_method_3_code 109 = .ok (.istore 19, 2) := by decide +kernel
theorem d9_141 : decode prog_186_method_3_code 141 = .ok (.iload 14, 2) := by decide +kernel
theorem d9_143 : decode prog_186_method_3_code 143 = .ok (.iload 13, 2) := by decide +kernel
theorem d9_145 : decode prog_186_method_3_code 145 = .ok (.iconst 1, 1) := by decide +kernel
theorem d9_146 : decode prog_186_method_3_code 146 = .ok (.isub, 1) := by decide +kernel
theorem d9_147 : decode prog_186_method_3_code 147 = .ok (.if_icmp .ne 14, 3) := by decide +kernel
theorem d9_150 : decode prog_186_method_3_code 150 = .ok (.lload 15, 2) := by decide +kernel
theorem d9_152 : decode prog_186_method_3_code 152 = .ok (.iload 12, 2) := by decide +kernel
theorem d9_154 : decode prog_186_method_3_code 154 = .ok (.i2l, 1) := by decide +kernel
theorem d9_155 : decode prog_186_method_3_code 155 = .ok (.bipush 56, 2) := by decide +kernel
theorem d9_157 : decode prog_186_method_3_code 157 = .ok (.lshl, 1) := by decide +kernel
theorem d9_158 : decode prog_186_method_3_code 158 = .ok (.lor, 1) := by decide +kernel
theorem d9_159 : decode prog_186_method_3_code 159 = .ok (.lstore 15, 2) := by decide +kernel
theorem d9_161 : decode prog_186_method_3_code 161 = .ok (.goto 18, 3) := by decide +kernel
theorem d9_179 : decode prog_186_method_3_code 179 = .ok (.lload 10, 2) := by decide +kernel
theorem d9_181 : decode prog_186_method_3_code 181 = .ok (.lload 15, 2) := by decide +kernel
theorem d9_183 : decode prog_186_method_3_code 183 = .ok (.lxor, 1) := by decide +kernel
theorem d9_184 : decode prog_186_method_3_code 184 = .ok (.lstore 10, 2) := by decide +kernel
theorem d9_186 : decode prog_186_method_3_code 186 = .ok (.lload 4, 2) := by decide +kernel
theorem d9_188 : decode prog_186_method_3_code 188 = .ok (.lload 6, 2) := by decide +kernel
theorem d9_190 : decode prog_186_method_3_code 190 = .ok (.ladd, 1) := by decide +kernel
theorem d9_191 : decode prog_186_method_3_code 191 = .ok (.lstore 4, 2) := by decide +kernel
theorem d9_193 : decode prog_186_method_3_code 193 = .ok (.lload 6, 2) := by decide +kernel
theorem d9_195 : decode prog_186_method_3_code 195 = .ok (.bipush 13, 2) := by decide +kernel
theorem d9_197 : decode prog_186_method_3_code 197 = .ok (.lshl, 1) := by decide +kernel
theorem d9_198 : decode prog_186_method_3_code 198 = .ok (.lload 6, 2) := by decide +kernel
theorem d9_200 : decode prog_186_method_3_code 200 = .ok (.bipush 51, 2) := by decide +kernel
theorem d9_202 : decode prog_186_method_3_code 202 = .ok (.lushr, 1) := by decide +kernel
theorem d9_203 : decode prog_186_method_3_code 203 = .ok (.lor, 1) := by decide +kernel
theorem d9_204 : decode prog_186_method_3_code 204 = .ok (.lstore 6, 2) := by decide +kernel
theorem d9_206 : decode prog_186_method_3_code 206 = .ok (.lload 6, 2) := by decide +kernel
theorem d9_208 : decode prog_186_method_3_code 208 = .ok (.lload 4, 2) := by decide +kernel
theorem d9_210 : decode prog_186_method_3_code 210 = .ok (.lxor, 1) := by decide +kernel
theorem d9_211 : decode prog_186_method_3_code 211 = .ok (.lstore 6, 2) := by decide +kernel
theorem d9_213 : decode prog_186_method_3_code 213 = .ok (.lload 4, 2) := by decide +kernel
theorem d9_215 : decode prog_186_method_3_code 215 = .ok (.bipush 32, 2) := by decide +kernel
theorem d9_217 : decode prog_186_method_3_code 217 = .ok (.lshl, 1) := by decide +kernel
theorem d9_218 : decode prog_186_method_3_code 218 = .ok (.lload 4, 2) := by decide +kernel
theorem d9_220 : decode prog_186_method_3_code 220 = .ok (.bipush 32, 2) := by decide +kernel
theorem d9_222 : decode prog_186_method_3_code 222 = .ok (.lushr, 1) := by decide +kernel
theorem d9_223 : decode prog_186_method_3_code 223 = .ok (.lor, 1) := by decide +kernel
theorem d9_224 : decode prog_186_method_3_code 224 = .ok (.lstore 4, 2) := by decide +kernel
theorem d9_226 : decode prog_186_method_3_code 226 = .ok (.lload 8, 2) := by decide +kernel
theorem d9_228 : decode prog_186_method_3_code 228 = .ok (.lload 10, 2) := by decide +kernel
theorem d9_230 : decode prog_186_method_3_code 230 = .ok (.ladd, 1) := by decide +kernel
theorem d9_231 : decode prog_186_method_3_code 231 = .ok (.lstore 8, 2) := by decide +kernel
theorem d9_233 : decode prog_186_method_3_code 233 = .ok (.lload 10, 2) := by decide +kernel
theorem d9_235 : decode prog_186_method_3_code 235 = .ok (.bipush 16, 2) := by decide +kernel
theorem d9_237 : decode prog_186_method_3_code 237 = .ok (.lshl, 1) := by decide +kernel
theorem d9_238 : decode prog_186_method_3_code 238 = .ok (.lload 10, 2) := by decide +kernel
theorem d9_240 : decode prog_186_method_3_code 240 = .ok (.bipush 48, 2) := by decide +kernel
theorem d9_242 : decode prog_186_method_3_code 242 = .ok (.lushr, 1) := by decide +kernel
theorem d9_243 : decode prog_186_method_3_code 243 = .ok (.lor, 1) := by decide +kernel
theorem d9_244 : decode prog_186_method_3_code 244 = .ok (.lstore 10, 2) := by decide +kernel
theorem d9_246 : decode prog_186_method_3_code 246 = .ok (.lload 10, 2) := by decide +kernel
theorem d9_248 : decode prog_186_method_3_code 248 = .ok (.lload 8, 2) := by decide +kernel
theorem d9_250 : decode prog_186_method_3_code 250 = .ok (.lxor, 1) := by decide +kernel
theorem d9_251 : decode prog_186_method_3_code 251 = .ok (.lstore 10, 2) := by decide +kernel
theorem d9_253 : decode prog_186_method_3_code 253 = .ok (.lload 4, 2) := by decide +kernel
theorem d9_255 : decode prog_186_method_3_code 255 = .ok (.lload 10, 2) := by decide +kernel
theorem d9_257 : decode prog_186_method_3_code 257 = .ok (.ladd, 1) := by decide +kernel
theorem d9_258 : decode prog_186_method_3_code 258 = .ok (.lstore 4, 2) := by decide +kernel
theorem d9_260 : decode prog_186_method_3_code 260 = .ok (.lload 10, 2) := by decide +kernel
theorem d9_262 : decode prog_186_method_3_code 262 = .ok (.bipush 21, 2) := by decide +kernel
theorem d9_264 : decode prog_186_method_3_code 264 = .ok (.lshl, 1) := by decide +kernel
theorem d9_265 : decode prog_186_method_3_code 265 = .ok (.lload 10, 2) := by decide +kernel
theorem d9_267 : decode prog_186_method_3_code 267 = .ok (.bipush 43, 2) := by decide +kernel
theorem d9_269 : decode prog_186_method_3_code 269 = .ok (.lushr, 1) := by decide +kernel
theorem d9_270 : decode prog_186_method_3_code 270 = .ok (.lor, 1) := by decide +kernel
theorem d9_271 : decode prog_186_method_3_code 271 = .ok (.lstore 10, 2) := by decide +kernel
theorem d9_273 : decode prog_186_method_3_code 273 = .ok (.lload 10, 2) := by decide +kernel
theorem d9_275 : decode prog_186_method_3_code 275 = .ok (.lload 4, 2) := by decide +kernel
theorem d9_277 : decode prog_186_method_3_code 277 = .ok (.lxor, 1) := by decide +kernel
theorem d9_278 : decode prog_186_method_3_code 278 = .ok (.lstore 10, 2) := by decide +kernel
theorem d9_280 : decode prog_186_method_3_code 280 = .ok (.lload 8, 2) := by decide +kernel
theorem d9_282 : decode prog_186_method_3_code 282 = .ok (.lload 6, 2) := by decide +kernel
theorem d9_284 : decode prog_186_method_3_code 284 = .ok (.ladd, 1) := by decide +kernel
theorem d9_285 : decode prog_186_method_3_code 285 = .ok (.lstore 8, 2) := by decide +kernel
theorem d9_287 : decode prog_186_method_3_code 287 = .ok (.lload 6, 2) := by decide +kernel
theorem d9_289 : decode prog_186_method_3_code 289 = .ok (.bipush 17, 2) := by decide +kernel
theorem d9_291 : decode prog_186_method_3_code 291 = .ok (.lshl, 1) := by decide +kernel
theorem d9_292 : decode prog_186_method_3_code 292 = .ok (.lload 6, 2) := by decide +kernel
theorem d9_294 : decode prog_186_method_3_code 294 = .ok (.bipush 47, 2) := by decide +kernel
theorem d9_296 : decode prog_186_method_3_code 296 = .ok (.lushr, 1) := by decide +kernel
theorem d9_297 : decode prog_186_method_3_code 297 = .ok (.lor, 1) := by decide +kernel
theorem d9_298 : decode prog_186_method_3_code 298 = .ok (.lstore 6, 2) := by decide +kernel
theorem d9_300 : decode prog_186_method_3_code 300 = .ok (.lload 6, 2) := by decide +kernel
theorem d9_302 : decode prog_186_method_3_code 302 = .ok (.lload 8, 2) := by decide +kernel
theorem d9_304 : decode prog_186_method_3_code 304 = .ok (.lxor, 1) := by decide +kernel
theorem d9_305 : decode prog_186_method_3_code 305 = .ok (.lstore 6, 2) := by decide +kernel
theorem d9_307 : decode prog_186_method_3_code 307 = .ok (.lload 8, 2) := by decide +kernel
theorem d9_309 : decode prog_186_method_3_code 309 = .ok (.bipush 32, 2) := by decide +kernel
theorem d9_311 : decode prog_186_method_3_code 311 = .ok (.lshl, 1) := by decide +kernel
theorem d9_312 : decode prog_186_method_3_code 312 = .ok (.lload 8, 2) := by decide +kernel
theorem d9_314 : decode prog_186_method_3_code 314 = .ok (.bipush 32, 2) := by decide +kernel
theorem d9_316 : decode prog_186_method_3_code 316 = .ok (.lushr, 1) := by decide +kernel
theorem d9_317 : decode prog_186_method_3_code 317 = .ok (.lor, 1) := by decide +kernel
theorem d9_318 : decode prog_186_method_3_code 318 = .ok (.lstore 8, 2) := by decide +kernel
theorem d9_320 : decode prog_186_method_3_code 320 = .ok (.lload 4, 2) := by decide +kernel
theorem d9_322 : decode prog_186_method_3_code 322 = .ok (.lload 15, 2) := by decide +kernel
theorem d9_324 : decode prog_186_method_3_code 324 = .ok (.lxor, 1) := by decide +kernel
theorem d9_325 : decode prog_186_method_3_code 325 = .ok (.lstore 4, 2) := by decide +kernel
theorem d9_327 : decode prog_186_method_3_code 327 = .ok (.iinc 14 1, 3) := by decide +kernel
theorem d9_330 : decode prog_186_method_3_code 330 = .ok (.goto (-273), 3) := by decide +kernel
theorem d9_164 : decode prog_186_method_3_code 164 = .ok (.iload 14, 2) := by decide +kernel
theorem d9_166 : decode prog_186_method_3_code 166 = .ok (.iload 13, 2) := by decide +kernel
theorem d9_168 : decode prog_186_method_3_code 168 = .ok (.if_icmp .ne 11, 3) := by decide +kernel
theorem d9_171 : decode prog_186_method_3_code 171 = .ok (.lload 8, 2) := by decide +kernel
theorem d9_173 : decode prog_186_method_3_code 173 = .ok (.ldc2_w 39, 3) := by decide +kernel
theorem ow_49 {Z : State} {a0 : Array Value} (hw : ∀ d ∈ tables_1, d.before a0 Z = true) : (Jvm.Cond.constantLong "com/example/structlane/structlane/header/SipHash" (39 : Nat) (255 : Int64)).before a0 Z = true := hw _ (List.mem_of_getElem? (i := 49) rfl)
theorem d9_176 : decode prog_186_method_3_code 176 = .ok (.lxor, 1) := by decide +kernel
theorem d9_177 : decode prog_186_method_3_code 177 = .ok (.lstore 8, 2) := by decide +kernel
theorem d9_333 : decode prog_186_method_3_code 333 = .ok (.lload 4, 2) := by decide +kernel
theorem d9_335 : decode prog_186_method_3_code 335 = .ok (.lload 6, 2) := by decide +kernel
theorem d9_337 : decode prog_186_method_3_code 337 = .ok (.lxor, 1) := by decide +kernel
theorem d9_338 : decode prog_186_method_3_code 338 = .ok (.lload 8, 2) := by decide +kernel
theorem d9_340 : decode prog_186_method_3_code 340 = .ok (.lxor, 1) := by decide +kernel
theorem d9_341 : decode prog_186_method_3_code 341 = .ok (.lload 10, 2) := by decide +kernel
theorem d9_343 : decode prog_186_method_3_code 343 = .ok (.lxor, 1) := by decide +kernel
theorem d9_344 : decode prog_186_method_3_code 344 = .ok (.lreturn, 1) := by decide +kernel
theorem oef_rm_hash0 (m : MethodId) (ra : Addr) (rb : Addr) (u2 : Int32) (u3 : Int32) : entryFrame m #[(.ref ra), (.ref rb), (.int u2), (.int u3)] 20 = mkF m 0 #[vR ra, vR rb, vI u2, vI u3, vU, vU, vU, vU, vU, vU, vU, vU, vU, vU, vU, vU, vU, vU, vU, vU] [] := by first | (simp [entryFrame, mkF, argsToLocals, Value.category]; done) | rfl
set_option maxRecDepth 65536 in
set_option maxHeartbeats 40000000 in
theorem rm_hash0 (l : Launch) (Z : State) (a0 : Array Value) (hw : ∀ d ∈ tables_1, d.before a0 Z = true) (ra : Addr) (rb : Addr) (u2 : Int32) (u3 : Int32) (q0 : Int64) (q1 : Int64) (gg : Nat → Int32) (h0 : Heap) (n0 : Nat) (Z0 : n0 ≤ h0.size) (P0 : Fld Z h0 ra "com/example/structlane/structlane/header/SipHash" "key0" "J" (.long q0)) (P1 : Fld Z h0 ra "com/example/structlane/structlane/header/SipHash" "key1" "J" (.long q1)) (P2 : own_AI Z h0 rb .byte (24 : Int32) gg) (hs : 0 ≤ u2.toInt) (hE : u2.toInt ≤ u3.toInt ∧ u3.toInt ≤ 24) (hD : ((u3 - u2) / (8 : Int32)) = (0 : Int32)) :
    own_M l Z (⟨"com/example/structlane/structlane/header/SipHash", "hash", "([BII)J"⟩ : MethodName) prog_186_method_3_code 20 (some .long) [] ({ frames := 0, cells := 0, slots := 0, locals := 0 } : Room) #[(.ref ra), (.ref rb), (.int u2), (.int u3)] h0 (fun v h L => v = some (.long (own_x4 (own_comp (0 : Int64) (own_comp (0 : Int64) (own_comp (0 : Int64) (own_ff (own_comp ((own_le8 gg (u2 + ((0 : Int32) * (8 : Int32))) (u3 - (u2 + ((0 : Int32) * (8 : Int32))))) ||| ((u3 - u2).toInt64 <<< ((56 : Int32) &&& 0x3f).toInt64)) ((q0 ^^^ (8317987319222330741 : Int64)), (q1 ^^^ (7237128888997146477 : Int64)), (q0 ^^^ (7816392313619706465 : Int64)), (q1 ^^^ (8387220255154660723 : Int64)))))))))) ∧ Fr n0 L ∧ (h = h0)) 0 0 := by
  refine own_body (plainFor_of_name opn_com_example_structlane_structlane_header_SipHash) ?_
  intro p e s m below meth c s1 hx hby hml hown hnm hret hlk hZ X0 e0
  rw [oef_rm_hash0 m ra rb u2 u3]
  have N0 := Fr.nil n0
  have hu := rng32 u2
  have hlen := own_sub u3 u2 ⟨hs, hE.1⟩
  have hB := own_blk (by omega) hD
  simp only [Int32.reduceToInt] at hB
  refine own_aloadN X0 hx (hb hby d9_0) rfl rfl (pc' := 1) rfl ?_
  refine own_getF X0 hx hZ hown (ow_36 hw) e0 P0 (hb hby d9_1) (pc' := 4) rfl ?_
  intro T1 X1 e1
  refine own_ldc2 X1 hx hZ hown (ow_45 hw) (hb hby d9_4) (pc' := 7) rfl ?_
  refine own_lxor X1 hx (hb hby d9_7) (pc' := 8) rfl ?_
  refine own_lstore X1 hx (hb hby d9_8) (l' := #[vR ra, vR rb, vI u2, vI u3, vL (q0 ^^^ (8317987319222330741 : Int64)), vS, vU, vU, vU, vU, vU, vU, vU, vU, vU, vU, vU, vU, vU, vU]) rfl (pc' := 10) rfl ?_
  refine own_aloadN X1 hx (hb hby d9_10) rfl rfl (pc' := 11) rfl ?_
  refine own_getF X1 hx hZ hown (ow_38 hw) e1 P1 (hb hby d9_11) (pc' := 14) rfl ?_
  intro T2 X2 e2
  refine own_ldc2 X2 hx hZ hown (ow_46 hw) (hb hby d9_14) (pc' := 17) rfl ?_
  refine own_lxor X2 hx (hb hby d9_17) (pc' := 18) rfl ?_
  refine own_lstore X2 hx (hb hby d9_18) (l' := #[vR ra, vR rb, vI u2, vI u3, vL (q0 ^^^ (8317987319222330741 : Int64)), vS, vL (q1 ^^^ (7237128888997146477 : Int64)), vS, vU, vU, vU, vU, vU, vU, vU, vU, vU, vU, vU, vU]) rfl (pc' := 20) rfl ?_
  refine own_aloadN X2 hx (hb hby d9_20) rfl rfl (pc' := 21) rfl ?_
  refine own_getF X2 hx hZ hown (ow_36 hw) e2 P0 (hb hby d9_21) (pc' := 24) rfl ?_
  intro T3 X3 e3
  refine own_ldc2 X3 hx hZ hown (ow_47 hw) (hb hby d9_24) (pc' := 27) rfl ?_
  refine own_lxor X3 hx (hb hby d9_27) (pc' := 28) rfl ?_
  refine own_lstore X3 hx (hb hby d9_28) (l' := #[vR ra, vR rb, vI u2, vI u3, vL (q0 ^^^ (8317987319222330741 : Int64)), vS, vL (q1 ^^^ (7237128888997146477 : Int64)), vS, vL (q0 ^^^ (7816392313619706465 : Int64)), vS, vU, vU, vU, vU, vU, vU, vU, vU, vU, vU]) rfl (pc' := 30) rfl ?_
  refine own_aloadN X3 hx (hb hby d9_30) rfl rfl (pc' := 31) rfl ?_
  refine own_getF X3 hx hZ hown (ow_38 hw) e3 P1 (hb hby d9_31) (pc' := 34) rfl ?_
  intro T4 X4 e4
  refine own_ldc2 X4 hx hZ hown (ow_48 hw) (hb hby d9_34) (pc' := 37) rfl ?_
  refine own_lxor X4 hx (hb hby d9_37) (pc' := 38) rfl ?_
  refine own_lstore X4 hx (hb hby d9_38) (l' := #[vR ra, vR rb, vI u2, vI u3, vL (q0 ^^^ (8317987319222330741 : Int64)), vS, vL (q1 ^^^ (7237128888997146477 : Int64)), vS, vL (q0 ^^^ (7816392313619706465 : Int64)), vS, vL (q1 ^^^ (8387220255154660723 : Int64)), vS, vU, vU, vU, vU, vU, vU, vU, vU]) rfl (pc' := 40) rfl ?_
  refine own_iloadN X4 hx (hb hby d9_40) rfl (pc' := 41) rfl ?_
  refine own_iloadN X4 hx (hb hby d9_41) rfl (pc' := 42) rfl ?_
  refine own_isub X4 hx (hb hby d9_42) (pc' := 43) rfl ?_
  refine own_istore X4 hx (hb hby d9_43) (l' := #[vR ra, vR rb, vI u2, vI u3, vL (q0 ^^^ (8317987319222330741 : Int64)), vS, vL (q1 ^^^ (7237128888997146477 : Int64)), vS, vL (q0 ^^^ (7816392313619706465 : Int64)), vS, vL (q1 ^^^ (8387220255154660723 : Int64)), vS, vI (u3 - u2), vU, vU, vU, vU, vU, vU, vU]) rfl (pc' := 45) rfl ?_
  refine own_iload X4 hx (hb hby d9_45) rfl (pc' := 47) rfl ?_
  refine own_bipush X4 hx (hb hby d9_47) (z := (8 : Int32)) (by decide) (pc' := 49) rfl ?_
  refine own_idiv X4 hx (hb hby d9_49) (by decide) (pc' := 50) rfl ?_
  rw [hD]
  refine own_iconst X4 hx (hb hby d9_50) (z := (1 : Int32)) rfl (pc' := 51) rfl ?_
  refine own_iadd X4 hx (hb hby d9_51) (pc' := 52) rfl ?_
  refine own_istore X4 hx (hb hby d9_52) (l' := #[vR ra, vR rb, vI u2, vI u3, vL (q0 ^^^ (8317987319222330741 : Int64)), vS, vL (q1 ^^^ (7237128888997146477 : Int64)), vS, vL (q0 ^^^ (7816392313619706465 : Int64)), vS, vL (q1 ^^^ (8387220255154660723 : Int64)), vS, vI (u3 - u2), vI ((0 : Int32) + (1 : Int32)), vU, vU, vU, vU, vU, vU]) rfl (pc' := 54) rfl ?_
  refine own_iconst X4 hx (hb hby d9_54) (z := (0 : Int32)) rfl (pc' := 55) rfl ?_
  refine own_istore X4 hx (hb hby d9_55) (l' := #[vR ra, vR rb, vI u2, vI u3, vL (q0 ^^^ (8317987319222330741 : Int64)), vS, vL (q1 ^^^ (7237128888997146477 : Int64)), vS, vL (q0 ^^^ (7816392313619706465 : Int64)), vS, vL (q1 ^^^ (8387220255154660723 : Int64)), vS, vI (u3 - u2), vI ((0 : Int32) + (1 : Int32)), vI (0 : Int32), vU, vU, vU, vU, vU]) rfl (pc' := 57) rfl ?_
  show own_G p e below s _ _ _ (T4.setTop (mkF m 57 #[vR ra, vR rb, vI u2, vI u3, vL ((((q0 ^^^ (8317987319222330741 : Int64)), (q1 ^^^ (7237128888997146477 : Int64)), (q0 ^^^ (7816392313619706465 : Int64)), (q1 ^^^ (8387220255154660723 : Int64))) : own_S).1), vS, vL ((((q0 ^^^ (8317987319222330741 : Int64)), (q1 ^^^ (7237128888997146477 : Int64)), (q0 ^^^ (7816392313619706465 : Int64)), (q1 ^^^ (8387220255154660723 : Int64))) : own_S).2.1), vS, vL ((((q0 ^^^ (8317987319222330741 : Int64)), (q1 ^^^ (7237128888997146477 : Int64)), (q0 ^^^ (7816392313619706465 : Int64)), (q1 ^^^ (8387220255154660723 : Int64))) : own_S).2.2.1), vS, vL ((((q0 ^^^ (8317987319222330741 : Int64)), (q1 ^^^ (7237128888997146477 : Int64)), (q0 ^^^ (7816392313619706465 : Int64)), (q1 ^^^ (8387220255154660723 : Int64))) : own_S).2.2.2), vS, vI (u3 - u2), vI ((0 : Int32) + (1 : Int32)), vI (0 : Int32), vU, vU, vU, vU, vU] []))
  generalize ht0 : (((q0 ^^^ (8317987319222330741 : Int64)), (q1 ^^^ (7237128888997146477 : Int64)), (q0 ^^^ (7816392313619706465 : Int64)), (q1 ^^^ (8387220255154660723 : Int64))) : own_S) = t0
  refine own_iload X4 hx (hb hby d9_57) rfl (pc' := 59) rfl ?_
  refine own_iload X4 hx (hb hby d9_59) rfl (pc' := 61) rfl ?_
  refine own_iconst X4 hx (hb hby d9_61) (z := (3 : Int32)) rfl (pc' := 62) rfl ?_
  refine own_iadd X4 hx (hb hby d9_62) (pc' := 63) rfl ?_
  refine own_icmpF X4 hx (hb hby d9_63) (by decide) (pc' := 66) rfl ?_
  refine own_lconst X4 hx (hb hby d9_66) (z := (0 : Int64)) (by decide) (pc' := 67) rfl ?_
  refine own_lstore X4 hx (hb hby d9_67) (l' := #[vR ra, vR rb, vI u2, vI u3, vL t0.1, vS, vL t0.2.1, vS, vL t0.2.2.1, vS, vL t0.2.2.2, vS, vI (u3 - u2), vI ((0 : Int32) + (1 : Int32)), vI (0 : Int32), vL (0 : Int64), vS, vU, vU, vU]) rfl (pc' := 69) rfl ?_
  refine own_iload X4 hx (hb hby d9_69) rfl (pc' := 71) rfl ?_
  refine own_iload X4 hx (hb hby d9_71) rfl (pc' := 73) rfl ?_
  refine own_icmpF X4 hx (hb hby d9_73) (by decide) (pc' := 76) rfl ?_
  refine own_iloadN X4 hx (hb hby d9_76) rfl (pc' := 77) rfl ?_
  refine own_iload X4 hx (hb hby d9_77) rfl (pc' := 79) rfl ?_
  refine own_bipush X4 hx (hb hby d9_79) (z := (8 : Int32)) (by decide) (pc' := 81) rfl ?_
  refine own_imul X4 hx (hb hby d9_81) (pc' := 82) rfl ?_
  refine own_iadd X4 hx (hb hby d9_82) (pc' := 83) rfl ?_
  refine own_istore X4 hx (hb hby d9_83) (l' := #[vR ra, vR rb, vI u2, vI u3, vL t0.1, vS, vL t0.2.1, vS, vL t0.2.2.1, vS, vL t0.2.2.2, vS, vI (u3 - u2), vI ((0 : Int32) + (1 : Int32)), vI (0 : Int32), vL (0 : Int64), vS, vI (u2 + ((0 : Int32) * (8 : Int32))), vU, vU]) rfl (pc' := 85) rfl ?_
  have ho0 := own_offk u2 (0 : Int32) ⟨hs, by omega⟩ (by decide)
  rw [show ((0 : Int32)).toInt = 0 from by decide] at ho0
  have hd0 := own_sub u3 (u2 + ((0 : Int32) * (8 : Int32))) (by omega)
  have hk0 : (u3 - (u2 + ((0 : Int32) * (8 : Int32)))) < (8 : Int32) := by simp only [Int32.lt_iff_toInt_lt, Int32.reduceToInt]; omega
  refine own_iloadN X4 hx (hb hby d9_85) rfl (pc' := 86) rfl ?_
  refine own_iload X4 hx (hb hby d9_86) rfl (pc' := 88) rfl ?_
  refine own_isub X4 hx (hb hby d9_88) (pc' := 89) rfl ?_
  refine own_bipush X4 hx (hb hby d9_89) (z := (8 : Int32)) (by decide) (pc' := 91) rfl ?_
  refine own_icmpF X4 hx (hb hby d9_91) (tlt hk0).2.1 (pc' := 94) rfl ?_
  refine own_iloadN X4 hx (hb hby d9_94) rfl (pc' := 95) rfl ?_
  refine own_goto X4 hx (hb hby d9_95) (by decide) (pc' := 103) rfl ?_
  refine own_istore X4 hx (hb hby d9_103) (l' := #[vR ra, vR rb, vI u2, vI u3, vL t0.1, vS, vL t0.2.1, vS, vL t0.2.2.1, vS, vL t0.2.2.2, vS, vI (u3 - u2), vI ((0 : Int32) + (1 : Int32)), vI (0 : Int32), vL (0 : Int64), vS, vI (u2 + ((0 : Int32) * (8 : Int32))), vI u3, vU]) rfl (pc' := 105) rfl ?_
  refine own_iload X4 hx (hb hby d9_105) rfl (pc' := 107) rfl ?_
  refine own_iconst X4 hx (hb hby d9_107) (z := (1 : Int32)) rfl (pc' := 108) rfl ?_
  refine own_isub X4 hx (hb hby d9_108) (pc' := 109) rfl ?_
  refine own_istore X4 hx (hb hby d9_109) (l' := #[vR ra, vR rb, vI u2, vI u3, vL t0.1, vS, vL t0.2.1, vS, vL t0.2.2.1, vS, vL t0.2.2.2, vS, vI (u3 - u2), vI ((0 : Int32) + (1 : Int32)), vI (0 : Int32), vL (0 : Int64), vS, vI (u2 + ((0 : Int32) * (8 : Int32))), vI u3, vI (u3 - (1 : Int32))]) rfl (pc' := 111) rfl ?_
  have hm0 : (u3).toInt = ((u2 + ((0 : Int32) * (8 : Int32)))).toInt + ((u3.toInt - ((u2 + ((0 : Int32) * (8 : Int32)))).toInt).toNat : Nat) := by omega
  refine own_inner X4 hx hby hZ e4 ra rb gg P2 u2 u3 (u3 - u2) ((0 : Int32) + (1 : Int32)) (0 : Int32) (u2 + ((0 : Int32) * (8 : Int32))) u3 t0.1 t0.2.1 t0.2.2.1 t0.2.2.2 (by omega) (u3.toInt - ((u2 + ((0 : Int32) * (8 : Int32)))).toInt).toNat (u3 - (1 : Int32)) 0 (own_j u3 (u2 + ((0 : Int32) * (8 : Int32))) (u3.toInt - ((u2 + ((0 : Int32) * (8 : Int32)))).toInt).toNat hm0 (by omega) (by omega)) (by omega) ?_
  rw [Nat.add_zero, own_Hle gg (u2 + ((0 : Int32) * (8 : Int32))) (u3 - (u2 + ((0 : Int32) * (8 : Int32)))) (u3.toInt - ((u2 + ((0 : Int32) * (8 : Int32)))).toInt).toNat (by omega) (by omega)]
  refine own_iload X4 hx (hb hby d9_141) rfl (pc' := 143) rfl ?_
  refine own_iload X4 hx (hb hby d9_143) rfl (pc' := 145) rfl ?_
  refine own_iconst X4 hx (hb hby d9_145) (z := (1 : Int32)) rfl (pc' := 146) rfl ?_
  refine own_isub X4 hx (hb hby d9_146) (pc' := 147) rfl ?_
  refine own_icmpF X4 hx (hb hby d9_147) (by decide) (pc' := 150) rfl ?_
  refine own_lload X4 hx (hb hby d9_150) rfl (pc' := 152) rfl ?_
  refine own_iload X4 hx (hb hby d9_152) rfl (pc' := 154) rfl ?_
  refine own_i2l X4 hx (hb hby d9_154) (pc' := 155) rfl ?_
  refine own_bipush X4 hx (hb hby d9_155) (z := (56 : Int32)) (by decide) (pc' := 157) rfl ?_
  refine own_lshl X4 hx (hb hby d9_157) (pc' := 158) rfl ?_
  refine own_lor X4 hx (hb hby d9_158) (pc' := 159) rfl ?_
  refine own_lstore X4 hx (hb hby d9_159) (l' := #[vR ra, vR rb, vI u2, vI u3, vL t0.1, vS, vL t0.2.1, vS, vL t0.2.2.1, vS, vL t0.2.2.2, vS, vI (u3 - u2), vI ((0 : Int32) + (1 : Int32)), vI (0 : Int32), vL ((own_le8 gg (u2 + ((0 : Int32) * (8 : Int32))) (u3 - (u2 + ((0 : Int32) * (8 : Int32))))) ||| (((u3 - u2).toInt64) <<< ((56 : Int32) &&& 0x3f).toInt64)), vS, vI (u2 + ((0 : Int32) * (8 : Int32))), vI u3, vI ((u2 + ((0 : Int32) * (8 : Int32))) + (-1 : Int32))]) rfl (pc' := 161) rfl ?_
  refine own_goto X4 hx (hb hby d9_161) (by decide) (pc' := 179) rfl ?_
  generalize hM0 : ((own_le8 gg (u2 + ((0 : Int32) * (8 : Int32))) (u3 - (u2 + ((0 : Int32) * (8 : Int32))))) ||| (((u3 - u2).toInt64) <<< ((56 : Int32) &&& 0x3f).toInt64)) = m0
  generalize ((u2 + ((0 : Int32) * (8 : Int32))) + (-1 : Int32)) = ob0
  generalize (u2 + ((0 : Int32) * (8 : Int32))) = oa0
  refine own_lload X4 hx (hb hby d9_179) rfl (pc' := 181) rfl ?_
  refine own_lload X4 hx (hb hby d9_181) rfl (pc' := 183) rfl ?_
  refine own_lxor X4 hx (hb hby d9_183) (pc' := 184) rfl ?_
  refine own_lstore X4 hx (hb hby d9_184) (l' := #[vR ra, vR rb, vI u2, vI u3, vL t0.1, vS, vL t0.2.1, vS, vL t0.2.2.1, vS, vL (t0.2.2.2 ^^^ m0), vS, vI (u3 - u2), vI ((0 : Int32) + (1 : Int32)), vI (0 : Int32), vL m0, vS, vI oa0, vI u3, vI ob0]) rfl (pc' := 186) rfl ?_
  refine own_lload X4 hx (hb hby d9_186) rfl (pc' := 188) rfl ?_
  refine own_lload X4 hx (hb hby d9_188) rfl (pc' := 190) rfl ?_
  refine own_ladd X4 hx (hb hby d9_190) (pc' := 191) rfl ?_
  refine own_lstore X4 hx (hb hby d9_191) (l' := #[vR ra, vR rb, vI u2, vI u3, vL (t0.1 + t0.2.1), vS, vL t0.2.1, vS, vL t0.2.2.1, vS, vL (t0.2.2.2 ^^^ m0), vS, vI (u3 - u2), vI ((0 : Int32) + (1 : Int32)), vI (0 : Int32), vL m0, vS, vI oa0, vI u3, vI ob0]) rfl (pc' := 193) rfl ?_
  refine own_lload X4 hx (hb hby d9_193) rfl (pc' := 195) rfl ?_
  refine own_bipush X4 hx (hb hby d9_195) (z := (13 : Int32)) (by decide) (pc' := 197) rfl ?_
  refine own_lshl X4 hx (hb hby d9_197) (pc' := 198) rfl ?_
  refine own_lload X4 hx (hb hby d9_198) rfl (pc' := 200) rfl ?_
  refine own_bipush X4 hx (hb hby d9_200) (z := (51 : Int32)) (by decide) (pc' := 202) rfl ?_
  refine own_lushr X4 hx (hb hby d9_202) (pc' := 203) rfl ?_
  refine own_lor X4 hx (hb hby d9_203) (pc' := 204) rfl ?_
  rw [own_r13]
  refine own_lstore X4 hx (hb hby d9_204) (l' := #[vR ra, vR rb, vI u2, vI u3, vL (t0.1 + t0.2.1), vS, vL (own_rot t0.2.1 (13 : Int32)), vS, vL t0.2.2.1, vS, vL (t0.2.2.2 ^^^ m0), vS, vI (u3 - u2), vI ((0 : Int32) + (1 : Int32)), vI (0 : Int32), vL m0, vS, vI oa0, vI u3, vI ob0]) rfl (pc' := 206) rfl ?_
  refine own_lload X4 hx (hb hby d9_206) rfl (pc' := 208) rfl ?_
  refine own_lload X4 hx (hb hby d9_208) rfl (pc' := 210) rfl ?_
  refine own_lxor X4 hx (hb hby d9_210) (pc' := 211) rfl ?_
  refine own_lstore X4 hx (hb hby d9_211) (l' := #[vR ra, vR rb, vI u2, vI u3, vL (t0.1 + t0.2.1), vS, vL ((own_rot t0.2.1 (13 : Int32)) ^^^ (t0.1 + t0.2.1)), vS, vL t0.2.2.1, vS, vL (t0.2.2.2 ^^^ m0), vS, vI (u3 - u2), vI ((0 : Int32) + (1 : Int32)), vI (0 : Int32), vL m0, vS, vI oa0, vI u3, vI ob0]) rfl (pc' := 213) rfl ?_
  refine own_lload X4 hx (hb hby d9_213) rfl (pc' := 215) rfl ?_
  refine own_bipush X4 hx (hb hby d9_215) (z := (32 : Int32)) (by decide) (pc' := 217) rfl ?_
  refine own_lshl X4 hx (hb hby d9_217) (pc' := 218) rfl ?_
  refine own_lload X4 hx (hb hby d9_218) rfl (pc' := 220) rfl ?_
  refine own_bipush X4 hx (hb hby d9_220) (z := (32 : Int32)) (by decide) (pc' := 222) rfl ?_
  refine own_lushr X4 hx (hb hby d9_222) (pc' := 223) rfl ?_
  refine own_lor X4 hx (hb hby d9_223) (pc' := 224) rfl ?_
  rw [own_r32]
  refine own_lstore X4 hx (hb hby d9_224) (l' := #[vR ra, vR rb, vI u2, vI u3, vL (own_rot (t0.1 + t0.2.1) (32 : Int32)), vS, vL ((own_rot t0.2.1 (13 : Int32)) ^^^ (t0.1 + t0.2.1)), vS, vL t0.2.2.1, vS, vL (t0.2.2.2 ^^^ m0), vS, vI (u3 - u2), vI ((0 : Int32) + (1 : Int32)), vI (0 : Int32), vL m0, vS, vI oa0, vI u3, vI ob0]) rfl (pc' := 226) rfl ?_
  refine own_lload X4 hx (hb hby d9_226) rfl (pc' := 228) rfl ?_
  refine own_lload X4 hx (hb hby d9_228) rfl (pc' := 230) rfl ?_
  refine own_ladd X4 hx (hb hby d9_230) (pc' := 231) rfl ?_
  refine own_lstore X4 hx (hb hby d9_231) (l' := #[vR ra, vR rb, vI u2, vI u3, vL (own_rot (t0.1 + t0.2.1) (32 : Int32)), vS, vL ((own_rot t0.2.1 (13 : Int32)) ^^^ (t0.1 + t0.2.1)), vS, vL (t0.2.2.1 + (t0.2.2.2 ^^^ m0)), vS, vL (t0.2.2.2 ^^^ m0), vS, vI (u3 - u2), vI ((0 : Int32) + (1 : Int32)), vI (0 : Int32), vL m0, vS, vI oa0, vI u3, vI ob0]) rfl (pc' := 233) rfl ?_
  refine own_lload X4 hx (hb hby d9_233) rfl (pc' := 235) rfl ?_
  refine own_bipush X4 hx (hb hby d9_235) (z := (16 : Int32)) (by decide) (pc' := 237) rfl ?_
  refine own_lshl X4 hx (hb hby d9_237) (pc' := 238) rfl ?_
  refine own_lload X4 hx (hb hby d9_238) rfl (pc' := 240) rfl ?_
  refine own_bipush X4 hx (hb hby d9_240) (z := (48 : Int32)) (by decide) (pc' := 242) rfl ?_
  refine own_lushr X4 hx (hb hby d9_242) (pc' := 243) rfl ?_
  refine own_lor X4 hx (hb hby d9_243) (pc' := 244) rfl ?_
  rw [own_r16]
  refine own_lstore X4 hx (hb hby d9_244) (l' := #[vR ra, vR rb, vI u2, vI u3, vL (own_rot (t0.1 + t0.2.1) (32 : Int32)), vS, vL ((own_rot t0.2.1 (13 : Int32)) ^^^ (t0.1 + t0.2.1)), vS, vL (t0.2.2.1 + (t0.2.2.2 ^^^ m0)), vS, vL (own_rot (t0.2.2.2 ^^^ m0) (16 : Int32)), vS, vI (u3 - u2), vI ((0 : Int32) + (1 : Int32)), vI (0 : Int32), vL m0, vS, vI oa0, vI u3, vI ob0]) rfl (pc' := 246) rfl ?_
  refine own_lload X4 hx (hb hby d9_246) rfl (pc' := 248) rfl ?_
  refine own_lload X4 hx (hb hby d9_248) rfl (pc' := 250) rfl ?_
  refine own_lxor X4 hx (hb hby d9_250) (pc' := 251) rfl ?_
  refine own_lstore X4 hx (hb hby d9_251) (l' := #[vR ra, vR rb, vI u2, vI u3, vL (own_rot (t0.1 + t0.2.1) (32 : Int32)), vS, vL ((own_rot t0.2.1 (13 : Int32)) ^^^ (t0.1 + t0.2.1)), vS, vL (t0.2.2.1 + (t0.2.2.2 ^^^ m0)), vS, vL ((own_rot (t0.2.2.2 ^^^ m0) (16 : Int32)) ^^^ (t0.2.2.1 + (t0.2.2.2 ^^^ m0))), vS, vI (u3 - u2), vI ((0 : Int32) + (1 : Int32)), vI (0 : Int32), vL m0, vS, vI oa0, vI u3, vI ob0]) rfl (pc' := 253) rfl ?_
  refine own_lload X4 hx (hb hby d9_253) rfl (pc' := 255) rfl ?_
  refine own_lload X4 hx (hb hby d9_255) rfl (pc' := 257) rfl ?_
  refine own_ladd X4 hx (hb hby d9_257) (pc' := 258) rfl ?_
  refine own_lstore X4 hx (hb hby d9_258) (l' := #[vR ra, vR rb, vI u2, vI u3, vL ((own_rot (t0.1 + t0.2.1) (32 : Int32)) + ((own_rot (t0.2.2.2 ^^^ m0) (16 : Int32)) ^^^ (t0.2.2.1 + (t0.2.2.2 ^^^ m0)))), vS, vL ((own_rot t0.2.1 (13 : Int32)) ^^^ (t0.1 + t0.2.1)), vS, vL (t0.2.2.1 + (t0.2.2.2 ^^^ m0)), vS, vL ((own_rot (t0.2.2.2 ^^^ m0) (16 : Int32)) ^^^ (t0.2.2.1 + (t0.2.2.2 ^^^ m0))), vS, vI (u3 - u2), vI ((0 : Int32) + (1 : Int32)), vI (0 : Int32), vL m0, vS, vI oa0, vI u3, vI ob0]) rfl (pc' := 260) rfl ?_
  refine own_lload X4 hx (hb hby d9_260) rfl (pc' := 262) rfl ?_
  refine own_bipush X4 hx (hb hby d9_262) (z := (21 : Int32)) (by decide) (pc' := 264) rfl ?_
  refine own_lshl X4 hx (hb hby d9_264) (pc' := 265) rfl ?_
  refine own_lload X4 hx (hb hby d9_265) rfl (pc' := 267) rfl ?_
  refine own_bipush X4 hx (hb hby d9_267) (z := (43 : Int32)) (by decide) (pc' := 269) rfl ?_
  refine own_lushr X4 hx (hb hby d9_269) (pc' := 270) rfl ?_
  refine own_lor X4 hx (hb hby d9_270) (pc' := 271) rfl ?_
  rw [own_r21]
  refine own_lstore X4 hx (hb hby d9_271) (l' := #[vR ra, vR rb, vI u2, vI u3, vL ((own_rot (t0.1 + t0.2.1) (32 : Int32)) + ((own_rot (t0.2.2.2 ^^^ m0) (16 : Int32)) ^^^ (t0.2.2.1 + (t0.2.2.2 ^^^ m0)))), vS, vL ((own_rot t0.2.1 (13 : Int32)) ^^^ (t0.1 + t0.2.1)), vS, vL (t0.2.2.1 + (t0.2.2.2 ^^^ m0)), vS, vL (own_rot ((own_rot (t0.2.2.2 ^^^ m0) (16 : Int32)) ^^^ (t0.2.2.1 + (t0.2.2.2 ^^^ m0))) (21 : Int32)), vS, vI (u3 - u2), vI ((0 : Int32) + (1 : Int32)), vI (0 : Int32), vL m0, vS, vI oa0, vI u3, vI ob0]) rfl (pc' := 273) rfl ?_
  refine own_lload X4 hx (hb hby d9_273) rfl (pc' := 275) rfl ?_
  refine own_lload X4 hx (hb hby d9_275) rfl (pc' := 277) rfl ?_
  refine own_lxor X4 hx (hb hby d9_277) (pc' := 278) rfl ?_
  refine own_lstore X4 hx (hb hby d9_278) (l' := #[vR ra, vR rb, vI u2, vI u3, vL ((own_rot (t0.1 + t0.2.1) (32 : Int32)) + ((own_rot (t0.2.2.2 ^^^ m0) (16 : Int32)) ^^^ (t0.2.2.1 + (t0.2.2.2 ^^^ m0)))), vS, vL ((own_rot t0.2.1 (13 : Int32)) ^^^ (t0.1 + t0.2.1)), vS, vL (t0.2.2.1 + (t0.2.2.2 ^^^ m0)), vS, vL ((own_rot ((own_rot (t0.2.2.2 ^^^ m0) (16 : Int32)) ^^^ (t0.2.2.1 + (t0.2.2.2 ^^^ m0))) (21 : Int32)) ^^^ ((own_rot (t0.1 + t0.2.1) (32 : Int32)) + ((own_rot (t0.2.2.2 ^^^ m0) (16 : Int32)) ^^^ (t0.2.2.1 + (t0.2.2.2 ^^^ m0))))), vS, vI (u3 - u2), vI ((0 : Int32) + (1 : Int32)), vI (0 : Int32), vL m0, vS, vI oa0, vI u3, vI ob0]) rfl (pc' := 280) rfl ?_
  refine own_lload X4 hx (hb hby d9_280) rfl (pc' := 282) rfl ?_
  refine own_lload X4 hx (hb hby d9_282) rfl (pc' := 284) rfl ?_
  refine own_ladd X4 hx (hb hby d9_284) (pc' := 285) rfl ?_
  refine own_lstore X4 hx (hb hby d9_285) (l' := #[vR ra, vR rb, vI u2, vI u3, vL ((own_rot (t0.1 + t0.2.1) (32 : Int32)) + ((own_rot (t0.2.2.2 ^^^ m0) (16 : Int32)) ^^^ (t0.2.2.1 + (t0.2.2.2 ^^^ m0)))), vS, vL ((own_rot t0.2.1 (13 : Int32)) ^^^ (t0.1 + t0.2.1)), vS, vL ((t0.2.2.1 + (t0.2.2.2 ^^^ m0)) + ((own_rot t0.2.1 (13 : Int32)) ^^^ (t0.1 + t0.2.1))), vS, vL ((own_rot ((own_rot (t0.2.2.2 ^^^ m0) (16 : Int32)) ^^^ (t0.2.2.1 + (t0.2.2.2 ^^^ m0))) (21 : Int32)) ^^^ ((own_rot (t0.1 + t0.2.1) (32 : Int32)) + ((own_rot (t0.2.2.2 ^^^ m0) (16 : Int32)) ^^^ (t0.2.2.1 + (t0.2.2.2 ^^^ m0))))), vS, vI (u3 - u2), vI ((0 : Int32) + (1 : Int32)), vI (0 : Int32), vL m0, vS, vI oa0, vI u3, vI ob0]) rfl (pc' := 287) rfl ?_
  refine own_lload X4 hx (hb hby d9_287) rfl (pc' := 289) rfl ?_
  refine own_bipush X4 hx (hb hby d9_289) (z := (17 : Int32)) (by decide) (pc' := 291) rfl ?_
  refine own_lshl X4 hx (hb hby d9_291) (pc' := 292) rfl ?_
  refine own_lload X4 hx (hb hby d9_292) rfl (pc' := 294) rfl ?_
  refine own_bipush X4 hx (hb hby d9_294) (z := (47 : Int32)) (by decide) (pc' := 296) rfl ?_
  refine own_lushr X4 hx (hb hby d9_296) (pc' := 297) rfl ?_
  refine own_lor X4 hx (hb hby d9_297) (pc' := 298) rfl ?_
  rw [own_r17]
  refine own_lstore X4 hx (hb hby d9_298) (l' := #[vR ra, vR rb, vI u2, vI u3, vL ((own_rot (t0.1 + t0.2.1) (32 : Int32)) + ((own_rot (t0.2.2.2 ^^^ m0) (16 : Int32)) ^^^ (t0.2.2.1 + (t0.2.2.2 ^^^ m0)))), vS, vL (own_rot ((own_rot t0.2.1 (13 : Int32)) ^^^ (t0.1 + t0.2.1)) (17 : Int32)), vS, vL ((t0.2.2.1 + (t0.2.2.2 ^^^ m0)) + ((own_rot t0.2.1 (13 : Int32)) ^^^ (t0.1 + t0.2.1))), vS, vL ((own_rot ((own_rot (t0.2.2.2 ^^^ m0) (16 : Int32)) ^^^ (t0.2.2.1 + (t0.2.2.2 ^^^ m0))) (21 : Int32)) ^^^ ((own_rot (t0.1 + t0.2.1) (32 : Int32)) + ((own_rot (t0.2.2.2 ^^^ m0) (16 : Int32)) ^^^ (t0.2.2.1 + (t0.2.2.2 ^^^ m0))))), vS, vI (u3 - u2), vI ((0 : Int32) + (1 : Int32)), vI (0 : Int32), vL m0, vS, vI oa0, vI u3, vI ob0]) rfl (pc' := 300) rfl ?_
  refine own_lload X4 hx (hb hby d9_300) rfl (pc' := 302) rfl ?_
  refine own_lload X4 hx (hb hby d9_302) rfl (pc' := 304) rfl ?_
  refine own_lxor X4 hx (hb hby d9_304) (pc' := 305) rfl ?_
  refine own_lstore X4 hx (hb hby d9_305) (l' := #[vR ra, vR rb, vI u2, vI u3, vL ((own_rot (t0.1 + t0.2.1) (32 : Int32)) + ((own_rot (t0.2.2.2 ^^^ m0) (16 : Int32)) ^^^ (t0.2.2.1 + (t0.2.2.2 ^^^ m0)))), vS, vL ((own_rot ((own_rot t0.2.1 (13 : Int32)) ^^^ (t0.1 + t0.2.1)) (17 : Int32)) ^^^ ((t0.2.2.1 + (t0.2.2.2 ^^^ m0)) + ((own_rot t0.2.1 (13 : Int32)) ^^^ (t0.1 + t0.2.1)))), vS, vL ((t0.2.2.1 + (t0.2.2.2 ^^^ m0)) + ((own_rot t0.2.1 (13 : Int32)) ^^^ (t0.1 + t0.2.1))), vS, vL ((own_rot ((own_rot (t0.2.2.2 ^^^ m0) (16 : Int32)) ^^^ (t0.2.2.1 + (t0.2.2.2 ^^^ m0))) (21 : Int32)) ^^^ ((own_rot (t0.1 + t0.2.1) (32 : Int32)) + ((own_rot (t0.2.2.2 ^^^ m0) (16 : Int32)) ^^^ (t0.2.2.1 + (t0.2.2.2 ^^^ m0))))), vS, vI (u3 - u2), vI ((0 : Int32) + (1 : Int32)), vI (0 : Int32), vL m0, vS, vI oa0, vI u3, vI ob0]) rfl (pc' := 307) rfl ?_
  refine own_lload X4 hx (hb hby d9_307) rfl (pc' := 309) rfl ?_
  refine own_bipush X4 hx (hb hby d9_309) (z := (32 : Int32)) (by decide) (pc' := 311) rfl ?_
  refine own_lshl X4 hx (hb hby d9_311) (pc' := 312) rfl ?_
  refine own_lload X4 hx (hb hby d9_312) rfl (pc' := 314) rfl ?_
  refine own_bipush X4 hx (hb hby d9_314) (z := (32 : Int32)) (by decide) (pc' := 316) rfl ?_
  refine own_lushr X4 hx (hb hby d9_316) (pc' := 317) rfl ?_
  refine own_lor X4 hx (hb hby d9_317) (pc' := 318) rfl ?_
  rw [own_r32]
  refine own_lstore X4 hx (hb hby d9_318) (l' := #[vR ra, vR rb, vI u2, vI u3, vL ((own_rot (t0.1 + t0.2.1) (32 : Int32)) + ((own_rot (t0.2.2.2 ^^^ m0) (16 : Int32)) ^^^ (t0.2.2.1 + (t0.2.2.2 ^^^ m0)))), vS, vL ((own_rot ((own_rot t0.2.1 (13 : Int32)) ^^^ (t0.1 + t0.2.1)) (17 : Int32)) ^^^ ((t0.2.2.1 + (t0.2.2.2 ^^^ m0)) + ((own_rot t0.2.1 (13 : Int32)) ^^^ (t0.1 + t0.2.1)))), vS, vL (own_rot ((t0.2.2.1 + (t0.2.2.2 ^^^ m0)) + ((own_rot t0.2.1 (13 : Int32)) ^^^ (t0.1 + t0.2.1))) (32 : Int32)), vS, vL ((own_rot ((own_rot (t0.2.2.2 ^^^ m0) (16 : Int32)) ^^^ (t0.2.2.1 + (t0.2.2.2 ^^^ m0))) (21 : Int32)) ^^^ ((own_rot (t0.1 + t0.2.1) (32 : Int32)) + ((own_rot (t0.2.2.2 ^^^ m0) (16 : Int32)) ^^^ (t0.2.2.1 + (t0.2.2.2 ^^^ m0))))), vS, vI (u3 - u2), vI ((0 : Int32) + (1 : Int32)), vI (0 : Int32), vL m0, vS, vI oa0, vI u3, vI ob0]) rfl (pc' := 320) rfl ?_
  refine own_lload X4 hx (hb hby d9_320) rfl (pc' := 322) rfl ?_
  refine own_lload X4 hx (hb hby d9_322) rfl (pc' := 324) rfl ?_
  refine own_lxor X4 hx (hb hby d9_324) (pc' := 325) rfl ?_
  refine own_lstore X4 hx (hb hby d9_325) (l' := #[vR ra, vR rb, vI u2, vI u3, vL (((own_rot (t0.1 + t0.2.1) (32 : Int32)) + ((own_rot (t0.2.2.2 ^^^ m0) (16 : Int32)) ^^^ (t0.2.2.1 + (t0.2.2.2 ^^^ m0)))) ^^^ m0), vS, vL ((own_rot ((own_rot t0.2.1 (13 : Int32)) ^^^ (t0.1 + t0.2.1)) (17 : Int32)) ^^^ ((t0.2.2.1 + (t0.2.2.2 ^^^ m0)) + ((own_rot t0.2.1 (13 : Int32)) ^^^ (t0.1 + t0.2.1)))), vS, vL (own_rot ((t0.2.2.1 + (t0.2.2.2 ^^^ m0)) + ((own_rot t0.2.1 (13 : Int32)) ^^^ (t0.1 + t0.2.1))) (32 : Int32)), vS, vL ((own_rot ((own_rot (t0.2.2.2 ^^^ m0) (16 : Int32)) ^^^ (t0.2.2.1 + (t0.2.2.2 ^^^ m0))) (21 : Int32)) ^^^ ((own_rot (t0.1 + t0.2.1) (32 : Int32)) + ((own_rot (t0.2.2.2 ^^^ m0) (16 : Int32)) ^^^ (t0.2.2.1 + (t0.2.2.2 ^^^ m0))))), vS, vI (u3 - u2), vI ((0 : Int32) + (1 : Int32)), vI (0 : Int32), vL m0, vS, vI oa0, vI u3, vI ob0]) rfl (pc' := 327) rfl ?_
  refine own_iinc X4 hx (hb hby d9_327) rfl (z := (1 : Int32)) rfl (l' := #[vR ra, vR rb, vI u2, vI u3, vL (((own_rot (t0.1 + t0.2.1) (32 : Int32)) + ((own_rot (t0.2.2.2 ^^^ m0) (16 : Int32)) ^^^ (t0.2.2.1 + (t0.2.2.2 ^^^ m0)))) ^^^ m0), vS, vL ((own_rot ((own_rot t0.2.1 (13 : Int32)) ^^^ (t0.1 + t0.2.1)) (17 : Int32)) ^^^ ((t0.2.2.1 + (t0.2.2.2 ^^^ m0)) + ((own_rot t0.2.1 (13 : Int32)) ^^^ (t0.1 + t0.2.1)))), vS, vL (own_rot ((t0.2.2.1 + (t0.2.2.2 ^^^ m0)) + ((own_rot t0.2.1 (13 : Int32)) ^^^ (t0.1 + t0.2.1))) (32 : Int32)), vS, vL ((own_rot ((own_rot (t0.2.2.2 ^^^ m0) (16 : Int32)) ^^^ (t0.2.2.1 + (t0.2.2.2 ^^^ m0))) (21 : Int32)) ^^^ ((own_rot (t0.1 + t0.2.1) (32 : Int32)) + ((own_rot (t0.2.2.2 ^^^ m0) (16 : Int32)) ^^^ (t0.2.2.1 + (t0.2.2.2 ^^^ m0))))), vS, vI (u3 - u2), vI ((0 : Int32) + (1 : Int32)), vI ((0 : Int32) + (1 : Int32)), vL m0, vS, vI oa0, vI u3, vI ob0]) rfl (pc' := 330) rfl ?_
  refine own_goto X4 hx (hb hby d9_330) (by decide) (pc' := 57) rfl ?_
  show own_G p e below s _ _ _ (T4.setTop (mkF m 57 #[vR ra, vR rb, vI u2, vI u3, vL ((own_comp m0 t0).1), vS, vL ((own_comp m0 t0).2.1), vS, vL ((own_comp m0 t0).2.2.1), vS, vL ((own_comp m0 t0).2.2.2), vS, vI (u3 - u2), vI ((0 : Int32) + (1 : Int32)), vI (1 : Int32), vL m0, vS, vI oa0, vI u3, vI ob0] []))
  generalize ht1 : (own_comp m0 t0) = t1
  refine own_iload X4 hx (hb hby d9_57) rfl (pc' := 59) rfl ?_
  refine own_iload X4 hx (hb hby d9_59) rfl (pc' := 61) rfl ?_
  refine own_iconst X4 hx (hb hby d9_61) (z := (3 : Int32)) rfl (pc' := 62) rfl ?_
  refine own_iadd X4 hx (hb hby d9_62) (pc' := 63) rfl ?_
  refine own_icmpF X4 hx (hb hby d9_63) (by decide) (pc' := 66) rfl ?_
  refine own_lconst X4 hx (hb hby d9_66) (z := (0 : Int64)) (by decide) (pc' := 67) rfl ?_
  refine own_lstore X4 hx (hb hby d9_67) (l' := #[vR ra, vR rb, vI u2, vI u3, vL t1.1, vS, vL t1.2.1, vS, vL t1.2.2.1, vS, vL t1.2.2.2, vS, vI (u3 - u2), vI ((0 : Int32) + (1 : Int32)), vI (1 : Int32), vL (0 : Int64), vS, vI oa0, vI u3, vI ob0]) rfl (pc' := 69) rfl ?_
  refine own_iload X4 hx (hb hby d9_69) rfl (pc' := 71) rfl ?_
  refine own_iload X4 hx (hb hby d9_71) rfl (pc' := 73) rfl ?_
  refine own_icmpT X4 hx (hb hby d9_73) (by decide) (by decide) (pc' := 164) rfl ?_
  refine own_iload X4 hx (hb hby d9_164) rfl (pc' := 166) rfl ?_
  refine own_iload X4 hx (hb hby d9_166) rfl (pc' := 168) rfl ?_
  refine own_icmpF X4 hx (hb hby d9_168) (by decide) (pc' := 171) rfl ?_
  refine own_lload X4 hx (hb hby d9_171) rfl (pc' := 173) rfl ?_
  refine own_ldc2 X4 hx hZ hown (ow_49 hw) (hb hby d9_173) (pc' := 176) rfl ?_
  refine own_lxor X4 hx (hb hby d9_176) (pc' := 177) rfl ?_
  refine own_lstore X4 hx (hb hby d9_177) (l' := #[vR ra, vR rb, vI u2, vI u3, vL t1.1, vS, vL t1.2.1, vS, vL (t1.2.2.1 ^^^ (255 : Int64)), vS, vL t1.2.2.2, vS, vI (u3 - u2), vI ((0 : Int32) + (1 : Int32)), vI (1 : Int32), vL (0 : Int64), vS, vI oa0, vI u3, vI ob0]) rfl (pc' := 179) rfl ?_
  refine own_lload X4 hx (hb hby d9_179) rfl (pc' := 181) rfl ?_
  refine own_lload X4 hx (hb hby d9_181) rfl (pc' := 183) rfl ?_
  refine own_lxor X4 hx (hb hby d9_183) (pc' := 184) rfl ?_
  refine own_lstore X4 hx (hb hby d9_184) (l' := #[vR ra, vR rb, vI u2, vI u3, vL t1.1, vS, vL t1.2.1, vS, vL (t1.2.2.1 ^^^ (255 : Int64)), vS, vL (t1.2.2.2 ^^^ (0 : Int64)), vS, vI (u3 - u2), vI ((0 : Int32) + (1 : Int32)), vI (1 : Int32), vL (0 : Int64), vS, vI oa0, vI u3, vI ob0]) rfl (pc' := 186) rfl ?_
  refine own_lload X4 hx (hb hby d9_186) rfl (pc' := 188) rfl ?_
  refine own_lload X4 hx (hb hby d9_188) rfl (pc' := 190) rfl ?_
  refine own_ladd X4 hx (hb hby d9_190) (pc' := 191) rfl ?_
  refine own_lstore X4 hx (hb hby d9_191) (l' := #[vR ra, vR rb, vI u2, vI u3, vL (t1.1 + t1.2.1), vS, vL t1.2.1, vS, vL (t1.2.2.1 ^^^ (255 : Int64)), vS, vL (t1.2.2.2 ^^^ (0 : Int64)), vS, vI (u3 - u2), vI ((0 : Int32) + (1 : Int32)), vI (1 : Int32), vL (0 : Int64), vS, vI oa0, vI u3, vI ob0]) rfl (pc' := 193) rfl ?_
  refine own_lload X4 hx (hb hby d9_193) rfl (pc' := 195) rfl ?_
  refine own_bipush X4 hx (hb hby d9_195) (z := (13 : Int32)) (by decide) (pc' := 197) rfl ?_
  refine own_lshl X4 hx (hb hby d9_197) (pc' := 198) rfl ?_
  refine own_lload X4 hx (hb hby d9_198) rfl (pc' := 200) rfl ?_
  refine own_bipush X4 hx (hb hby d9_200) (z := (51 : Int32)) (by decide) (pc' := 202) rfl ?_
  refine own_lushr X4 hx (hb hby d9_202) (pc' := 203) rfl ?_
  refine own_lor X4 hx (hb hby d9_203) (pc' := 204) rfl ?_
  rw [own_r13]
  refine own_lstore X4 hx (hb hby d9_204) (l' := #[vR ra, vR rb, vI u2, vI u3, vL (t1.1 + t1.2.1), vS, vL (own_rot t1.2.1 (13 : Int32)), vS, vL (t1.2.2.1 ^^^ (255 : Int64)), vS, vL (t1.2.2.2 ^^^ (0 : Int64)), vS, vI (u3 - u2), vI ((0 : Int32) + (1 : Int32)), vI (1 : Int32), vL (0 : Int64), vS, vI oa0, vI u3, vI ob0]) rfl (pc' := 206) rfl ?_
  refine own_lload X4 hx (hb hby d9_206) rfl (pc' := 208) rfl ?_
  refine own_lload X4 hx (hb hby d9_208) rfl (pc' := 210) rfl ?_
  refine own_lxor X4 hx (hb hby d9_210) (pc' := 211) rfl ?_
  refine own_lstore X4 hx (hb hby d9_211) (l' := #[vR ra, vR rb, vI u2, vI u3, vL (t1.1 + t1.2.1), vS, vL ((own_rot t1.2.1 (13 : Int32)) ^^^ (t1.1 + t1.2.1)), vS, vL (t1.2.2.1 ^^^ (255 : Int64)), vS, vL (t1.2.2.2 ^^^ (0 : Int64)), vS, vI (u3 - u2), vI ((0 : Int32) + (1 : Int32)), vI (1 : Int32), vL (0 : Int64), vS, vI oa0, vI u3, vI ob0]) rfl (pc' := 213) rfl ?_
  refine own_lload X4 hx (hb hby d9_213) rfl (pc' := 215) rfl ?_
  refine own_bipush X4 hx (hb hby d9_215) (z := (32 : Int32)) (by decide) (pc' := 217) rfl ?_
  refine own_lshl X4 hx (hb hby d9_217) (pc' := 218) rfl ?_
  refine own_lload X4 hx (hb hby d9_218) rfl (pc' := 220) rfl ?_
  refine own_bipush X4 hx (hb hby d9_220) (z := (32 : Int32)) (by decide) (pc' := 222) rfl ?_
  refine own_lushr X4 hx (hb hby d9_222) (pc' := 223) rfl ?_
  refine own_lor X4 hx (hb hby d9_223) (pc' := 224) rfl ?_
  rw [own_r32]
  refine own_lstore X4 hx (hb hby d9_224) (l' := #[vR ra, vR rb, vI u2, vI u3, vL (own_rot (t1.1 + t1.2.1) (32 : Int32)), vS, vL ((own_rot t1.2.1 (13 : Int32)) ^^^ (t1.1 + t1.2.1)), vS, vL (t1.2.2.1 ^^^ (255 : Int64)), vS, vL (t1.2.2.2 ^^^ (0 : Int64)), vS, vI (u3 - u2), vI ((0 : Int32) + (1 : Int32)), vI (1 : Int32), vL (0 : Int64), vS, vI oa0, vI u3, vI ob0]) rfl (pc' := 226) rfl ?_
  refine own_lload X4 hx (hb hby d9_226) rfl (pc' := 228) rfl ?_
  refine own_lload X4 hx (hb hby d9_228) rfl (pc' := 230) rfl ?_
  refine own_ladd X4 hx (hb hby d9_230) (pc' := 231) rfl ?_
  refine own_lstore X4 hx (hb hby d9_231) (l' := #[vR ra, vR rb, vI u2, vI u3, vL (own_rot (t1.1 + t1.2.1) (32 : Int32)), vS, vL ((own_rot t1.2.1 (13 : Int32)) ^^^ (t1.1 + t1.2.1)), vS, vL ((t1.2.2.1 ^^^ (255 : Int64)) + (t1.2.2.2 ^^^ (0 : Int64))), vS, vL (t1.2.2.2 ^^^ (0 : Int64)), vS, vI (u3 - u2), vI ((0 : Int32) + (1 : Int32)), vI (1 : Int32), vL (0 : Int64), vS, vI oa0, vI u3, vI ob0]) rfl (pc' := 233) rfl ?_
  refine own_lload X4 hx (hb hby d9_233) rfl (pc' := 235) rfl ?_
  refine own_bipush X4 hx (hb hby d9_235) (z := (16 : Int32)) (by decide) (pc' := 237) rfl ?_
  refine own_lshl X4 hx (hb hby d9_237) (pc' := 238) rfl ?_
  refine own_lload X4 hx (hb hby d9_238) rfl (pc' := 240) rfl ?_
  refine own_bipush X4 hx (hb hby d9_240) (z := (48 : Int32)) (by decide) (pc' := 242) rfl ?_
  refine own_lushr X4 hx (hb hby d9_242) (pc' := 243) rfl ?_
  refine own_lor X4 hx (hb hby d9_243) (pc' := 244) rfl ?_
  rw [own_r16]
  refine own_lstore X4 hx (hb hby d9_244) (l' := #[vR ra, vR rb, vI u2, vI u3, vL (own_rot (t1.1 + t1.2.1) (32 : Int32)), vS, vL ((own_rot t1.2.1 (13 : Int32)) ^^^ (t1.1 + t1.2.1)), vS, vL ((t1.2.2.1 ^^^ (255 : Int64)) + (t1.2.2.2 ^^^ (0 : Int64))), vS, vL (own_rot (t1.2.2.2 ^^^ (0 : Int64)) (16 : Int32)), vS, vI (u3 - u2), vI ((0 : Int32) + (1 : Int32)), vI (1 : Int32), vL (0 : Int64), vS, vI oa0, vI u3, vI ob0]) rfl (pc' := 246) rfl ?_
  refine own_lload X4 hx (hb hby d9_246) rfl (pc' := 248) rfl ?_
  refine own_lload X4 hx (hb hby d9_248) rfl (pc' := 250) rfl ?_
  refine own_lxor X4 hx (hb hby d9_250) (pc' := 251) rfl ?_
  refine own_lstore X4 hx (hb hby d9_251) (l' := #[vR ra, vR rb, vI u2, vI u3, vL (own_rot (t1.1 + t1.2.1) (32 : Int32)), vS, vL ((own_rot t1.2.1 (13 : Int32)) ^^^ (t1.1 + t1.2.1)), vS, vL ((t1.2.2.1 ^^^ (255 : Int64)) + (t1.2.2.2 ^^^ (0 : Int64))), vS, vL ((own_rot (t1.2.2.2 ^^^ (0 : Int64)) (16 : Int32)) ^^^ ((t1.2.2.1 ^^^ (255 : Int64)) + (t1.2.2.2 ^^^ (0 : Int64)))), vS, vI (u3 - u2), vI ((0 : Int32) + (1 : Int32)), vI (1 : Int32), vL (0 : Int64), vS, vI oa0, vI u3, vI ob0]) rfl (pc' := 253) rfl ?_
  refine own_lload X4 hx (hb hby d9_253) rfl (pc' := 255) rfl ?_
  refine own_lload X4 hx (hb hby d9_255) rfl (pc' := 257) rfl ?_
  refine own_ladd X4 hx (hb hby d9_257) (pc' := 258) rfl ?_
  refine own_lstore X4 hx (hb hby d9_258) (l' := #[vR ra, vR rb, vI u2, vI u3, vL ((own_rot (t1.1 + t1.2.1) (32 : Int32)) + ((own_rot (t1.2.2.2 ^^^ (0 : Int64)) (16 : Int32)) ^^^ ((t1.2.2.1 ^^^ (255 : Int64)) + (t1.2.2.2 ^^^ (0 : Int64))))), vS, vL ((own_rot t1.2.1 (13 : Int32)) ^^^ (t1.1 + t1.2.1)), vS, vL ((t1.2.2.1 ^^^ (255 : Int64)) + (t1.2.2.2 ^^^ (0 : Int64))), vS, vL ((own_rot (t1.2.2.2 ^^^ (0 : Int64)) (16 : Int32)) ^^^ ((t1.2.2.1 ^^^ (255 : Int64)) + (t1.2.2.2 ^^^ (0 : Int64)))), vS, vI (u3 - u2), vI ((0 : Int32) + (1 : Int32)), vI (1 : Int32), vL (0 : Int64), vS, vI oa0, vI u3, vI ob0]) rfl (pc' := 260) rfl ?_
  refine own_lload X4 hx (hb hby d9_260) rfl (pc' := 262) rfl ?_
  refine own_bipush X4 hx (hb hby d9_262) (z := (21 : Int32)) (by decide) (pc' := 264) rfl ?_
  refine own_lshl X4 hx (hb hby d9_264) (pc' := 265) rfl ?_
  refine own_lload X4 hx (hb hby d9_265) rfl (pc' := 267) rfl ?_
  refine own_bipush X4 hx (hb hby d9_267) (z := (43 : Int32)) (by decide) (pc' := 269) rfl ?_
  refine own_lushr X4 hx (hb hby d9_269) (pc' := 270) rfl ?_
  refine own_lor X4 hx (hb hby d9_270) (pc' := 271) rfl ?_
  rw [own_r21]
  refine own_lstore X4 hx (hb hby d9_271) (l' := #[vR ra, vR rb, vI u2, vI u3, vL ((own_rot (t1.1 + t1.2.1) (32 : Int32)) + ((own_rot (t1.2.2.2 ^^^ (0 : Int64)) (16 : Int32)) ^^^ ((t1.2.2.1 ^^^ (255 : Int64)) + (t1.2.2.2 ^^^ (0 : Int64))))), vS, vL ((own_rot t1.2.1 (13 : Int32)) ^^^ (t1.1 + t1.2.1)), vS, vL ((t1.2.2.1 ^^^ (255 : Int64)) + (t1.2.2.2 ^^^ (0 : Int64))), vS, vL (own_rot ((own_rot (t1.2.2.2 ^^^ (0 : Int64)) (16 : Int32)) ^^^ ((t1.2.2.1 ^^^ (255 : Int64)) + (t1.2.2.2 ^^^ (0 : Int64)))) (21 : Int32)), vS, vI (u3 - u2), vI ((0 : Int32) + (1 : Int32)), vI (1 : Int32), vL (0 : Int64), vS, vI oa0, vI u3, vI ob0]) rfl (pc' := 273) rfl ?_
  refine own_lload X4 hx (hb hby d9_273) rfl (pc' := 275) rfl ?_
  refine own_lload X4 hx (hb hby d9_275) rfl (pc' := 277) rfl ?_
  refine own_lxor X4 hx (hb hby d9_277) (pc' := 278) rfl ?_
  refine own_lstore X4 hx (hb hby d9_278) (l' := #[vR ra, vR rb, vI u2, vI u3, vL ((own_rot (t1.1 + t1.2.1) (32 : Int32)) + ((own_rot (t1.2.2.2 ^^^ (0 : Int64)) (16 : Int32)) ^^^ ((t1.2.2.1 ^^^ (255 : Int64)) + (t1.2.2.2 ^^^ (0 : Int64))))), vS, vL ((own_rot t1.2.1 (13 : Int32)) ^^^ (t1.1 + t1.2.1)), vS, vL ((t1.2.2.1 ^^^ (255 : Int64)) + (t1.2.2.2 ^^^ (0 : Int64))), vS, vL ((own_rot ((own_rot (t1.2.2.2 ^^^ (0 : Int64)) (16 : Int32)) ^^^ ((t1.2.2.1 ^^^ (255 : Int64)) + (t1.2.2.2 ^^^ (0 : Int64)))) (21 : Int32)) ^^^ ((own_rot (t1.1 + t1.2.1) (32 : Int32)) + ((own_rot (t1.2.2.2 ^^^ (0 : Int64)) (16 : Int32)) ^^^ ((t1.2.2.1 ^^^ (255 : Int64)) + (t1.2.2.2 ^^^ (0 : Int64)))))), vS, vI (u3 - u2), vI ((0 : Int32) + (1 : Int32)), vI (1 : Int32), vL (0 : Int64), vS, vI oa0, vI u3, vI ob0]) rfl (pc' := 280) rfl ?_
  refine own_lload X4 hx (hb hby d9_280) rfl (pc' := 282) rfl ?_
  refine own_lload X4 hx (hb hby d9_282) rfl (pc' := 284) rfl ?_
  refine own_ladd X4 hx (hb hby d9_284) (pc' := 285) rfl ?_
  refine own_lstore X4 hx (hb hby d9_285) (l' := #[vR ra, vR rb, vI u2, vI u3, vL ((own_rot (t1.1 + t1.2.1) (32 : Int32)) + ((own_rot (t1.2.2.2 ^^^ (0 : Int64)) (16 : Int32)) ^^^ ((t1.2.2.1 ^^^ (255 : Int64)) + (t1.2.2.2 ^^^ (0 : Int64))))), vS, vL ((own_rot t1.2.1 (13 : Int32)) ^^^ (t1.1 + t1.2.1)), vS, vL (((t1.2.2.1 ^^^ (255 : Int64)) + (t1.2.2.2 ^^^ (0 : Int64))) + ((own_rot t1.2.1 (13 : Int32)) ^^^ (t1.1 + t1.2.1))), vS, vL ((own_rot ((own_rot (t1.2.2.2 ^^^ (0 : Int64)) (16 : Int32)) ^^^ ((t1.2.2.1 ^^^ (255 : Int64)) + (t1.2.2.2 ^^^ (0 : Int64)))) (21 : Int32)) ^^^ ((own_rot (t1.1 + t1.2.1) (32 : Int32)) + ((own_rot (t1.2.2.2 ^^^ (0 : Int64)) (16 : Int32)) ^^^ ((t1.2.2.1 ^^^ (255 : Int64)) + (t1.2.2.2 ^^^ (0 : Int64)))))), vS, vI (u3 - u2), vI ((0 : Int32) + (1 : Int32)), vI (1 : Int32), vL (0 : Int64), vS, vI oa0, vI u3, vI ob0]) rfl (pc' := 287) rfl ?_
  refine own_lload X4 hx (hb hby d9_287) rfl (pc' := 289) rfl ?_
  refine own_bipush X4 hx (hb hby d9_289) (z := (17 : Int32)) (by decide) (pc' := 291) rfl ?_
  refine own_lshl X4 hx (hb hby d9_291) (pc' := 292) rfl ?_
  refine own_lload X4 hx (hb hby d9_292) rfl (pc' := 294) rfl ?_
  refine own_bipush X4 hx (hb hby d9_294) (z := (47 : Int32)) (by decide) (pc' := 296) rfl ?_
  refine own_lushr X4 hx (hb hby d9_296) (pc' := 297) rfl ?_
  refine own_lor X4 hx (hb hby d9_297) (pc' := 298) rfl ?_
  rw [own_r17]
  refine own_lstore X4 hx (hb hby d9_298) (l' := #[vR ra, vR rb, vI u2, vI u3, vL ((own_rot (t1.1 + t1.2.1) (32 : Int32)) + ((own_rot (t1.2.2.2 ^^^ (0 : Int64)) (16 : Int32)) ^^^ ((t1.2.2.1 ^^^ (255 : Int64)) + (t1.2.2.2 ^^^ (0 : Int64))))), vS, vL (own_rot ((own_rot t1.2.1 (13 : Int32)) ^^^ (t1.1 + t1.2.1)) (17 : Int32)), vS, vL (((t1.2.2.1 ^^^ (255 : Int64)) + (t1.2.2.2 ^^^ (0 : Int64))) + ((own_rot t1.2.1 (13 : Int32)) ^^^ (t1.1 + t1.2.1))), vS, vL ((own_rot ((own_rot (t1.2.2.2 ^^^ (0 : Int64)) (16 : Int32)) ^^^ ((t1.2.2.1 ^^^ (255 : Int64)) + (t1.2.2.2 ^^^ (0 : Int64)))) (21 : Int32)) ^^^ ((own_rot (t1.1 + t1.2.1) (32 : Int32)) + ((own_rot (t1.2.2.2 ^^^ (0 : Int64)) (16 : Int32)) ^^^ ((t1.2.2.1 ^^^ (255 : Int64)) + (t1.2.2.2 ^^^ (0 : Int64)))))), vS, vI (u3 - u2), vI ((0 : Int32) + (1 : Int32)), vI (1 : Int32), vL (0 : Int64), vS, vI oa0, vI u3, vI ob0]) rfl (pc' := 300) rfl ?_
  refine own_lload X4 hx (hb hby d9_300) rfl (pc' := 302) rfl ?_
  refine own_lload X4 hx (hb hby d9_302) rfl (pc' := 304) rfl ?_
  refine own_lxor X4 hx (hb hby d9_304) (pc' := 305) rfl ?_
  refine own_lstore X4 hx (hb hby d9_305) (l' := #[vR ra, vR rb, vI u2, vI u3, vL ((own_rot (t1.1 + t1.2.1) (32 : Int32)) + ((own_rot (t1.2.2.2 ^^^ (0 : Int64)) (16 : Int32)) ^^^ ((t1.2.2.1 ^^^ (255 : Int64)) + (t1.2.2.2 ^^^ (0 : Int64))))), vS, vL ((own_rot ((own_rot t1.2.1 (13 : Int32)) ^^^ (t1.1 + t1.2.1)) (17 : Int32)) ^^^ (((t1.2.2.1 ^^^ (255 : Int64)) + (t1.2.2.2 ^^^ (0 : Int64))) + ((own_rot t1.2.1 (13 : Int32)) ^^^ (t1.1 + t1.2.1)))), vS, vL (((t1.2.2.1 ^^^ (255 : Int64)) + (t1.2.2.2 ^^^ (0 : Int64))) + ((own_rot t1.2.1 (13 : Int32)) ^^^ (t1.1 + t1.2.1))), vS, vL ((own_rot ((own_rot (t1.2.2.2 ^^^ (0 : Int64)) (16 : Int32)) ^^^ ((t1.2.2.1 ^^^ (255 : Int64)) + (t1.2.2.2 ^^^ (0 : Int64)))) (21 : Int32)) ^^^ ((own_rot (t1.1 + t1.2.1) (32 : Int32)) + ((own_rot (t1.2.2.2 ^^^ (0 : Int64)) (16 : Int32)) ^^^ ((t1.2.2.1 ^^^ (255 : Int64)) + (t1.2.2.2 ^^^ (0 : Int64)))))), vS, vI (u3 - u2), vI ((0 : Int32) + (1 : Int32)), vI (1 : Int32), vL (0 : Int64), vS, vI oa0, vI u3, vI ob0]) rfl (pc' := 307) rfl ?_
  refine own_lload X4 hx (hb hby d9_307) rfl (pc' := 309) rfl ?_
  refine own_bipush X4 hx (hb hby d9_309) (z := (32 : Int32)) (by decide) (pc' := 311) rfl ?_
  refine own_lshl X4 hx (hb hby d9_311) (pc' := 312) rfl ?_
  refine own_lload X4 hx (hb hby d9_312) rfl (pc' := 314) rfl ?_
  refine own_bipush X4 hx (hb hby d9_314) (z := (32 : Int32)) (by decide) (pc' := 316) rfl ?_
  refine own_lushr X4 hx (hb hby d9_316) (pc' := 317) rfl ?_
  refine own_lor X4 hx (hb hby d9_317) (pc' := 318) rfl ?_
  rw [own_r32]
  refine own_lstore X4 hx (hb hby d9_318) (l' := #[vR ra, vR rb, vI u2, vI u3, vL ((own_rot (t1.1 + t1.2.1) (32 : Int32)) + ((own_rot (t1.2.2.2 ^^^ (0 : Int64)) (16 : Int32)) ^^^ ((t1.2.2.1 ^^^ (255 : Int64)) + (t1.2.2.2 ^^^ (0 : Int64))))), vS, vL ((own_rot ((own_rot t1.2.1 (13 : Int32)) ^^^ (t1.1 + t1.2.1)) (17 : Int32)) ^^^ (((t1.2.2.1 ^^^ (255 : Int64)) + (t1.2.2.2 ^^^ (0 : Int64))) + ((own_rot t1.2.1 (13 : Int32)) ^^^ (t1.1 + t1.2.1)))), vS, vL (own_rot (((t1.2.2.1 ^^^ (255 : Int64)) + (t1.2.2.2 ^^^ (0 : Int64))) + ((own_rot t1.2.1 (13 : Int32)) ^^^ (t1.1 + t1.2.1))) (32 : Int32)), vS, vL ((own_rot ((own_rot (t1.2.2.2 ^^^ (0 : Int64)) (16 : Int32)) ^^^ ((t1.2.2.1 ^^^ (255 : Int64)) + (t1.2.2.2 ^^^ (0 : Int64)))) (21 : Int32)) ^^^ ((own_rot (t1.1 + t1.2.1) (32 : Int32)) + ((own_rot (t1.2.2.2 ^^^ (0 : Int64)) (16 : Int32)) ^^^ ((t1.2.2.1 ^^^ (255 : Int64)) + (t1.2.2.2 ^^^ (0 : Int64)))))), vS, vI (u3 - u2), vI ((0 : Int32) + (1 : Int32)), vI (1 : Int32), vL (0 : Int64), vS, vI oa0, vI u3, vI ob0]) rfl (pc' := 320) rfl ?_
  refine own_lload X4 hx (hb hby d9_320) rfl (pc' := 322) rfl ?_
  refine own_lload X4 hx (hb hby d9_322) rfl (pc' := 324) rfl ?_
  refine own_lxor X4 hx (hb hby d9_324) (pc' := 325) rfl ?_
  refine own_lstore X4 hx (hb hby d9_325) (l' := #[vR ra, vR rb, vI u2, vI u3, vL (((own_rot (t1.1 + t1.2.1) (32 : Int32)) + ((own_rot (t1.2.2.2 ^^^ (0 : Int64)) (16 : Int32)) ^^^ ((t1.2.2.1 ^^^ (255 : Int64)) + (t1.2.2.2 ^^^ (0 : Int64))))) ^^^ (0 : Int64)), vS, vL ((own_rot ((own_rot t1.2.1 (13 : Int32)) ^^^ (t1.1 + t1.2.1)) (17 : Int32)) ^^^ (((t1.2.2.1 ^^^ (255 : Int64)) + (t1.2.2.2 ^^^ (0 : Int64))) + ((own_rot t1.2.1 (13 : Int32)) ^^^ (t1.1 + t1.2.1)))), vS, vL (own_rot (((t1.2.2.1 ^^^ (255 : Int64)) + (t1.2.2.2 ^^^ (0 : Int64))) + ((own_rot t1.2.1 (13 : Int32)) ^^^ (t1.1 + t1.2.1))) (32 : Int32)), vS, vL ((own_rot ((own_rot (t1.2.2.2 ^^^ (0 : Int64)) (16 : Int32)) ^^^ ((t1.2.2.1 ^^^ (255 : Int64)) + (t1.2.2.2 ^^^ (0 : Int64)))) (21 : Int32)) ^^^ ((own_rot (t1.1 + t1.2.1) (32 : Int32)) + ((own_rot (t1.2.2.2 ^^^ (0 : Int64)) (16 : Int32)) ^^^ ((t1.2.2.1 ^^^ (255 : Int64)) + (t1.2.2.2 ^^^ (0 : Int64)))))), vS, vI (u3 - u2), vI ((0 : Int32) + (1 : Int32)), vI (1 : Int32), vL (0 : Int64), vS, vI oa0, vI u3, vI ob0]) rfl (pc' := 327) rfl ?_
  refine own_iinc X4 hx (hb hby d9_327) rfl (z := (1 : Int32)) rfl (l' := #[vR ra, vR rb, vI u2, vI u3, vL (((own_rot (t1.1 + t1.2.1) (32 : Int32)) + ((own_rot (t1.2.2.2 ^^^ (0 : Int64)) (16 : Int32)) ^^^ ((t1.2.2.1 ^^^ (255 : Int64)) + (t1.2.2.2 ^^^ (0 : Int64))))) ^^^ (0 : Int64)), vS, vL ((own_rot ((own_rot t1.2.1 (13 : Int32)) ^^^ (t1.1 + t1.2.1)) (17 : Int32)) ^^^ (((t1.2.2.1 ^^^ (255 : Int64)) + (t1.2.2.2 ^^^ (0 : Int64))) + ((own_rot t1.2.1 (13 : Int32)) ^^^ (t1.1 + t1.2.1)))), vS, vL (own_rot (((t1.2.2.1 ^^^ (255 : Int64)) + (t1.2.2.2 ^^^ (0 : Int64))) + ((own_rot t1.2.1 (13 : Int32)) ^^^ (t1.1 + t1.2.1))) (32 : Int32)), vS, vL ((own_rot ((own_rot (t1.2.2.2 ^^^ (0 : Int64)) (16 : Int32)) ^^^ ((t1.2.2.1 ^^^ (255 : Int64)) + (t1.2.2.2 ^^^ (0 : Int64)))) (21 : Int32)) ^^^ ((own_rot (t1.1 + t1.2.1) (32 : Int32)) + ((own_rot (t1.2.2.2 ^^^ (0 : Int64)) (16 : Int32)) ^^^ ((t1.2.2.1 ^^^ (255 : Int64)) + (t1.2.2.2 ^^^ (0 : Int64)))))), vS, vI (u3 - u2), vI ((0 : Int32) + (1 : Int32)), vI ((1 : Int32) + (1 : Int32)), vL (0 : Int64), vS, vI oa0, vI u3, vI ob0]) rfl (pc' := 330) rfl ?_
  refine own_goto X4 hx (hb hby d9_330) (by decide) (pc' := 57) rfl ?_
  show own_G p e below s _ _ _ (T4.setTop (mkF m 57 #[vR ra, vR rb, vI u2, vI u3, vL ((own_comp (0 : Int64) (own_ff t1)).1), vS, vL ((own_comp (0 : Int64) (own_ff t1)).2.1), vS, vL ((own_comp (0 : Int64) (own_ff t1)).2.2.1), vS, vL ((own_comp (0 : Int64) (own_ff t1)).2.2.2), vS, vI (u3 - u2), vI ((0 : Int32) + (1 : Int32)), vI (2 : Int32), vL (0 : Int64), vS, vI oa0, vI u3, vI ob0] []))
  generalize ht2 : (own_comp (0 : Int64) (own_ff t1)) = t2
  refine own_iload X4 hx (hb hby d9_57) rfl (pc' := 59) rfl ?_
  refine own_iload X4 hx (hb hby d9_59) rfl (pc' := 61) rfl ?_
  refine own_iconst X4 hx (hb hby d9_61) (z := (3 : Int32)) rfl (pc' := 62) rfl ?_
  refine own_iadd X4 hx (hb hby d9_62) (pc' := 63) rfl ?_
  refine own_icmpF X4 hx (hb hby d9_63) (by decide) (pc' := 66) rfl ?_
  refine own_lconst X4 hx (hb hby d9_66) (z := (0 : Int64)) (by decide) (pc' := 67) rfl ?_
  refine own_lstore X4 hx (hb hby d9_67) (l' := #[vR ra, vR rb, vI u2, vI u3, vL t2.1, vS, vL t2.2.1, vS, vL t2.2.2.1, vS, vL t2.2.2.2, vS, vI (u3 - u2), vI ((0 : Int32) + (1 : Int32)), vI (2 : Int32), vL (0 : Int64), vS, vI oa0, vI u3, vI ob0]) rfl (pc' := 69) rfl ?_
  refine own_iload X4 hx (hb hby d9_69) rfl (pc' := 71) rfl ?_
  refine own_iload X4 hx (hb hby d9_71) rfl (pc' := 73) rfl ?_
  refine own_icmpT X4 hx (hb hby d9_73) (by decide) (by decide) (pc' := 164) rfl ?_
  refine own_iload X4 hx (hb hby d9_164) rfl (pc' := 166) rfl ?_
  refine own_iload X4 hx (hb hby d9_166) rfl (pc' := 168) rfl ?_
  refine own_icmpT X4 hx (hb hby d9_168) (by decide) (by decide) (pc' := 179) rfl ?_
  refine own_lload X4 hx (hb hby d9_179) rfl (pc' := 181) rfl ?_
  refine own_lload X4 hx (hb hby d9_181) rfl (pc' := 183) rfl ?_
  refine own_lxor X4 hx (hb hby d9_183) (pc' := 184) rfl ?_
  refine own_lstore X4 hx (hb hby d9_184) (l' := #[vR ra, vR rb, vI u2, vI u3, vL t2.1, vS, vL t2.2.1, vS, vL t2.2.2.1, vS, vL (t2.2.2.2 ^^^ (0 : Int64)), vS, vI (u3 - u2), vI ((0 : Int32) + (1 : Int32)), vI (2 : Int32), vL (0 : Int64), vS, vI oa0, vI u3, vI ob0]) rfl (pc' := 186) rfl ?_
  refine own_lload X4 hx (hb hby d9_186) rfl (pc' := 188) rfl ?_
  refine own_lload X4 hx (hb hby d9_188) rfl (pc' := 190) rfl ?_
  refine own_ladd X4 hx (hb hby d9_190) (pc' := 191) rfl ?_
  refine own_lstore X4 hx (hb hby d9_191) (l' := #[vR ra, vR rb, vI u2, vI u3, vL (t2.1 + t2.2.1), vS, vL t2.2.1, vS, vL t2.2.2.1, vS, vL (t2.2.2.2 ^^^ (0 : Int64)), vS, vI (u3 - u2), vI ((0 : Int32) + (1 : Int32)), vI (2 : Int32), vL (0 : Int64), vS, vI oa0, vI u3, vI ob0]) rfl (pc' := 193) rfl ?_
  refine own_lload X4 hx (hb hby d9_193) rfl (pc' := 195) rfl ?_
  refine own_bipush X4 hx (hb hby d9_195) (z := (13 : Int32)) (by decide) (pc' := 197) rfl ?_
  refine own_lshl X4 hx (hb hby d9_197) (pc' := 198) rfl ?_
  refine own_lload X4 hx (hb hby d9_198) rfl (pc' := 200) rfl ?_
  refine own_bipush X4 hx (hb hby d9_200) (z := (51 : Int32)) (by decide) (pc' := 202) rfl ?_
  refine own_lushr X4 hx (hb hby d9_202) (pc' := 203) rfl ?_
  refine own_lor X4 hx (hb hby d9_203) (pc' := 204) rfl ?_
  rw [own_r13]
  refine own_lstore X4 hx (hb hby d9_204) (l' := #[vR ra, vR rb, vI u2, vI u3, vL (t2.1 + t2.2.1), vS, vL (own_rot t2.2.1 (13 : Int32)), vS, vL t2.2.2.1, vS, vL (t2.2.2.2 ^^^ (0 : Int64)), vS, vI (u3 - u2), vI ((0 : Int32) + (1 : Int32)), vI (2 : Int32), vL (0 : Int64), vS, vI oa0, vI u3, vI ob0]) rfl (pc' := 206) rfl ?_
  refine own_lload X4 hx (hb hby d9_206) rfl (pc' := 208) rfl ?_
  refine own_lload X4 hx (hb hby d9_208) rfl (pc' := 210) rfl ?_
  refine own_lxor X4 hx (hb hby d9_210) (pc' := 211) rfl ?_
  refine own_lstore X4 hx (hb hby d9_211) (l' := #[vR ra, vR rb, vI u2, vI u3, vL (t2.1 + t2.2.1), vS, vL ((own_rot t2.2.1 (13 : Int32)) ^^^ (t2.1 + t2.2.1)), vS, vL t2.2.2.1, vS, vL (t2.2.2.2 ^^^ (0 : Int64)), vS, vI (u3 - u2), vI ((0 : Int32) + (1 : Int32)), vI (2 : Int32), vL (0 : Int64), vS, vI oa0, vI u3, vI ob0]) rfl (pc' := 213) rfl ?_
  refine own_lload X4 hx (hb hby d9_213) rfl (pc' := 215) rfl ?_
  refine own_bipush X4 hx (hb hby d9_215) (z := (32 : Int32)) (by decide) (pc' := 217) rfl ?_
  refine own_lshl X4 hx (hb hby d9_217) (pc' := 218) rfl ?_
  refine own_lload X4 hx (hb hby d9_218) rfl (pc' := 220) rfl ?_
  refine own_bipush X4 hx (hb hby d9_220) (z := (32 : Int32)) (by decide) (pc' := 222) rfl ?_
  refine own_lushr X4 hx (hb hby d9_222) (pc' := 223) rfl ?_
  refine own_lor X4 hx (hb hby d9_223) (pc' := 224) rfl ?_
  rw [own_r32]
  refine own_lstore X4 hx (hb hby d9_224) (l' := #[vR ra, vR rb, vI u2, vI u3, vL (own_rot (t2.1 + t2.2.1) (32 : Int32)), vS, vL ((own_rot t2.2.1 (13 : Int32)) ^^^ (t2.1 + t2.2.1)), vS, vL t2.2.2.1, vS, vL (t2.2.2.2 ^^^ (0 : Int64)), vS, vI (u3 - u2), vI ((0 : Int32) + (1 : Int32)), vI (2 : Int32), vL (0 : Int64), vS, vI oa0, vI u3, vI ob0]) rfl (pc' := 226) rfl ?_
  refine own_lload X4 hx (hb hby d9_226) rfl (pc' := 228) rfl ?_
  refine own_lload X4 hx (hb hby d9_228) rfl (pc' := 230) rfl ?_
  refine own_ladd X4 hx (hb hby d9_230) (pc' := 231) rfl ?_
  refine own_lstore X4 hx (hb hby d9_231) (l' := #[vR ra, vR rb, vI u2, vI u3, vL (own_rot (t2.1 + t2.2.1) (32 : Int32)), vS, vL ((own_rot t2.2.1 (13 : Int32)) ^^^ (t2.1 + t2.2.1)), vS, vL (t2.2.2.1 + (t2.2.2.2 ^^^ (0 : Int64))), vS, vL (t2.2.2.2 ^^^ (0 : Int64)), vS, vI (u3 - u2), vI ((0 : Int32) + (1 : Int32)), vI (2 : Int32), vL (0 : Int64), vS, vI oa0, vI u3, vI ob0]) rfl (pc' := 233) rfl ?_
  refine own_lload X4 hx (hb hby d9_233) rfl (pc' := 235) rfl ?_
  refine own_bipush X4 hx (hb hby d9_235) (z := (16 : Int32)) (by decide) (pc' := 237) rfl ?_
  refine own_lshl X4 hx (hb hby d9_237) (pc' := 238) rfl ?_
  refine own_lload X4 hx (hb hby d9_238) rfl (pc' := 240) rfl ?_
  refine own_bipush X4 hx (hb hby d9_240) (z := (48 : Int32)) (by decide) (pc' := 242) rfl ?_
  refine own_lushr X4 hx (hb hby d9_242) (pc' := 243) rfl ?_
  refine own_lor X4 hx (hb hby d9_243) (pc' := 244) rfl ?_
  rw [own_r16]
  refine own_lstore X4 hx (hb hby d9_244) (l' := #[vR ra, vR rb, vI u2, vI u3, vL (own_rot (t2.1 + t2.2.1) (32 : Int32)), vS, vL ((own_rot t2.2.1 (13 : Int32)) ^^^ (t2.1 + t2.2.1)), vS, vL (t2.2.2.1 + (t2.2.2.2 ^^^ (0 : Int64))), vS, vL (own_rot (t2.2.2.2 ^^^ (0 : Int64)) (16 : Int32)), vS, vI (u3 - u2), vI ((0 : Int32) + (1 : Int32)), vI (2 : Int32), vL (0 : Int64), vS, vI oa0, vI u3, vI ob0]) rfl (pc' := 246) rfl ?_
  refine own_lload X4 hx (hb hby d9_246) rfl (pc' := 248) rfl ?_
  refine own_lload X4 hx (hb hby d9_248) rfl (pc' := 250) rfl ?_
  refine own_lxor X4 hx (hb hby d9_250) (pc' := 251) rfl ?_
  refine own_lstore X4 hx (hb hby d9_251) (l' := #[vR ra, vR rb, vI u2, vI u3, vL (own_rot (t2.1 + t2.2.1) (32 : Int32)), vS, vL ((own_rot t2.2.1 (13 : Int32)) ^^^ (t2.1 + t2.2.1)), vS, vL (t2.2.2.1 + (t2.2.2.2 ^^^ (0 : Int64))), vS, vL ((own_rot (t2.2.2.2 ^^^ (0 : Int64)) (16 : Int32)) ^^^ (t2.2.2.1 + (t2.2.2.2 ^^^ (0 : Int64)))), vS, vI (u3 - u2), vI ((0 : Int32) + (1 : Int32)), vI (2 : Int32), vL (0 : Int64), vS, vI oa0, vI u3, vI ob0]) rfl (pc' := 253) rfl ?_
  refine own_lload X4 hx (hb hby d9_253) rfl (pc' := 255) rfl ?_
  refine own_lload X4 hx (hb hby d9_255) rfl (pc' := 257) rfl ?_
  refine own_ladd X4 hx (hb hby d9_257) (pc' := 258) rfl ?_
  refine own_lstore X4 hx (hb hby d9_258) (l' := #[vR ra, vR rb, vI u2, vI u3, vL ((own_rot (t2.1 + t2.2.1) (32 : Int32)) + ((own_rot (t2.2.2.2 ^^^ (0 : Int64)) (16 : Int32)) ^^^ (t2.2.2.1 + (t2.2.2.2 ^^^ (0 : Int64))))), vS, vL ((own_rot t2.2.1 (13 : Int32)) ^^^ (t2.1 + t2.2.1)), vS, vL (t2.2.2.1 + (t2.2.2.2 ^^^ (0 : Int64))), vS, vL ((own_rot (t2.2.2.2 ^^^ (0 : Int64)) (16 : Int32)) ^^^ (t2.2.2.1 + (t2.2.2.2 ^^^ (0 : Int64)))), vS, vI (u3 - u2), vI ((0 : Int32) + (1 : Int32)), vI (2 : Int32), vL (0 : Int64), vS, vI oa0, vI u3, vI ob0]) rfl (pc' := 260) rfl ?_
  refine own_lload X4 hx (hb hby d9_260) rfl (pc' := 262) rfl ?_
  refine own_bipush X4 hx (hb hby d9_262) (z := (21 : Int32)) (by decide) (pc' := 264) rfl ?_
  refine own_lshl X4 hx (hb hby d9_264) (pc' := 265) rfl ?_
  refine own_lload X4 hx (hb hby d9_265) rfl (pc' := 267) rfl ?_
  refine own_bipush X4 hx (hb hby d9_267) (z := (43 : Int32)) (by decide) (pc' := 269) rfl ?_
  refine own_lushr X4 hx (hb hby d9_269) (pc' := 270) rfl ?_
  refine own_lor X4 hx (hb hby d9_270) (pc' := 271) rfl ?_
  rw [own_r21]
  refine own_lstore X4 hx (hb hby d9_271) (l' := #[vR ra, vR rb, vI u2, vI u3, vL ((own_rot (t2.1 + t2.2.1) (32 : Int32)) + ((own_rot (t2.2.2.2 ^^^ (0 : Int64)) (16 : Int32)) ^^^ (t2.2.2.1 + (t2.2.2.2 ^^^ (0 : Int64))))), vS, vL ((own_rot t2.2.1 (13 : Int32)) ^^^ (t2.1 + t2.2.1)), vS, vL (t2.2.2.1 + (t2.2.2.2 ^^^ (0 : Int64))), vS, vL (own_rot ((own_rot (t2.2.2.2 ^^^ (0 : Int64)) (16 : Int32)) ^^^ (t2.2.2.1 + (t2.2.2.2 ^^^ (0 : Int64)))) (21 : Int32)), vS, vI (u3 - u2), vI ((0 : Int32) + (1 : Int32)), vI (2 : Int32), vL (0 : Int64), vS, vI oa0, vI u3, vI ob0]) rfl (pc' := 273) rfl ?_
  refine own_lload X4 hx (hb hby d9_273) rfl (pc' := 275) rfl ?_
  refine own_lload X4 hx (hb hby d9_275) rfl (pc' := 277) rfl ?_
  refine own_lxor X4 hx (hb hby d9_277) (pc' := 278) rfl ?_
  refine own_lstore X4 hx (hb hby d9_278) (l' := #[vR ra, vR rb, vI u2, vI u3, vL ((own_rot (t2.1 + t2.2.1) (32 : Int32)) + ((own_rot (t2.2.2.2 ^^^ (0 : Int64)) (16 : Int32)) ^^^ (t2.2.2.1 + (t2.2.2.2 ^^^ (0 : Int64))))), vS, vL ((own_rot t2.2.1 (13 : Int32)) ^^^ (t2.1 + t2.2.1)), vS, vL (t2.2.2.1 + (t2.2.2.2 ^^^ (0 : Int64))), vS, vL ((own_rot ((own_rot (t2.2.2.2 ^^^ (0 : Int64)) (16 : Int32)) ^^^ (t2.2.2.1 + (t2.2.2.2 ^^^ (0 : Int64)))) (21 : Int32)) ^^^ ((own_rot (t2.1 + t2.2.1) (32 : Int32)) + ((own_rot (t2.2.2.2 ^^^ (0 : Int64)) (16 : Int32)) ^^^ (t2.2.2.1 + (t2.2.2.2 ^^^ (0 : Int64)))))), vS, vI (u3 - u2), vI ((0 : Int32) + (1 : Int32)), vI (2 : Int32), vL (0 : Int64), vS, vI oa0, vI u3, vI ob0]) rfl (pc' := 280) rfl ?_
  refine own_lload X4 hx (hb hby d9_280) rfl (pc' := 282) rfl ?_
  refine own_lload X4 hx (hb hby d9_282) rfl (pc' := 284) rfl ?_
  refine own_ladd X4 hx (hb hby d9_284) (pc' := 285) rfl ?_
  refine own_lstore X4 hx (hb hby d9_285) (l' := #[vR ra, vR rb, vI u2, vI u3, vL ((own_rot (t2.1 + t2.2.1) (32 : Int32)) + ((own_rot (t2.2.2.2 ^^^ (0 : Int64)) (16 : Int32)) ^^^ (t2.2.2.1 + (t2.2.2.2 ^^^ (0 : Int64))))), vS, vL ((own_rot t2.2.1 (13 : Int32)) ^^^ (t2.1 + t2.2.1)), vS, vL ((t2.2.2.1 + (t2.2.2.2 ^^^ (0 : Int64))) + ((own_rot t2.2.1 (13 : Int32)) ^^^ (t2.1 + t2.2.1))), vS, vL ((own_rot ((own_rot (t2.2.2.2 ^^^ (0 : Int64)) (16 : Int32)) ^^^ (t2.2.2.1 + (t2.2.2.2 ^^^ (0 : Int64)))) (21 : Int32)) ^^^ ((own_rot (t2.1 + t2.2.1) (32 : Int32)) + ((own_rot (t2.2.2.2 ^^^ (0 : Int64)) (16 : Int32)) ^^^ (t2.2.2.1 + (t2.2.2.2 ^^^ (0 : Int64)))))), vS, vI (u3 - u2), vI ((0 : Int32) + (1 : Int32)), vI (2 : Int32), vL (0 : Int64), vS, vI oa0, vI u3, vI ob0]) rfl (pc' := 287) rfl ?_
  refine own_lload X4 hx (hb hby d9_287) rfl (pc' := 289) rfl ?_
  refine own_bipush X4 hx (hb hby d9_289) (z := (17 : Int32)) (by decide) (pc' := 291) rfl ?_
  refine own_lshl X4 hx (hb hby d9_291) (pc' := 292) rfl ?_
  refine own_lload X4 hx (hb hby d9_292) rfl (pc' := 294) rfl ?_
  refine own_bipush X4 hx (hb hby d9_294) (z := (47 : Int32)) (by decide) (pc' := 296) rfl ?_
  refine own_lushr X4 hx (hb hby d9_296) (pc' := 297) rfl ?_
  refine own_lor X4 hx (hb hby d9_297) (pc' := 298) rfl ?_
  rw [own_r17]
  refine own_lstore X4 hx (hb hby d9_298) (l' := #[vR ra, vR rb, vI u2, vI u3, vL ((own_rot (t2.1 + t2.2.1) (32 : Int32)) + ((own_rot (t2.2.2.2 ^^^ (0 : Int64)) (16 : Int32)) ^^^ (t2.2.2.1 + (t2.2.2.2 ^^^ (0 : Int64))))), vS, vL (own_rot ((own_rot t2.2.1 (13 : Int32)) ^^^ (t2.1 + t2.2.1)) (17 : Int32)), vS, vL ((t2.2.2.1 + (t2.2.2.2 ^^^ (0 : Int64))) + ((own_rot t2.2.1 (13 : Int32)) ^^^ (t2.1 + t2.2.1))), vS, vL ((own_rot ((own_rot (t2.2.2.2 ^^^ (0 : Int64)) (16 : Int32)) ^^^ (t2.2.2.1 + (t2.2.2.2 ^^^ (0 : Int64)))) (21 : Int32)) ^^^ ((own_rot (t2.1 + t2.2.1) (32 : Int32)) + ((own_rot (t2.2.2.2 ^^^ (0 : Int64)) (16 : Int32)) ^^^ (t2.2.2.1 + (t2.2.2.2 ^^^ (0 : Int64)))))), vS, vI (u3 - u2), vI ((0 : Int32) + (1 : Int32)), vI (2 : Int32), vL (0 : Int64), vS, vI oa0, vI u3, vI ob0]) rfl (pc' := 300) rfl ?_
  refine own_lload X4 hx (hb hby d9_300) rfl (pc' := 302) rfl ?_
  refine own_lload X4 hx (hb hby d9_302) rfl (pc' := 304) rfl ?_
  refine own_lxor X4 hx (hb hby d9_304) (pc' := 305) rfl ?_
  refine own_lstore X4 hx (hb hby d9_305) (l' := #[vR ra, vR rb, vI u2, vI u3, vL ((own_rot (t2.1 + t2.2.1) (32 : Int32)) + ((own_rot (t2.2.2.2 ^^^ (0 : Int64)) (16 : Int32)) ^^^ (t2.2.2.1 + (t2.2.2.2 ^^^ (0 : Int64))))), vS, vL ((own_rot ((own_rot t2.2.1 (13 : Int32)) ^^^ (t2.1 + t2.2.1)) (17 : Int32)) ^^^ ((t2.2.2.1 + (t2.2.2.2 ^^^ (0 : Int64))) + ((own_rot t2.2.1 (13 : Int32)) ^^^ (t2.1 + t2.2.1)))), vS, vL ((t2.2.2.1 + (t2.2.2.2 ^^^ (0 : Int64))) + ((own_rot t2.2.1 (13 : Int32)) ^^^ (t2.1 + t2.2.1))), vS, vL ((own_rot ((own_rot (t2.2.2.2 ^^^ (0 : Int64)) (16 : Int32)) ^^^ (t2.2.2.1 + (t2.2.2.2 ^^^ (0 : Int64)))) (21 : Int32)) ^^^ ((own_rot (t2.1 + t2.2.1) (32 : Int32)) + ((own_rot (t2.2.2.2 ^^^ (0 : Int64)) (16 : Int32)) ^^^ (t2.2.2.1 + (t2.2.2.2 ^^^ (0 : Int64)))))), vS, vI (u3 - u2), vI ((0 : Int32) + (1 : Int32)), vI (2 : Int32), vL (0 : Int64), vS, vI oa0, vI u3, vI ob0]) rfl (pc' := 307) rfl ?_
  refine own_lload X4 hx (hb hby d9_307) rfl (pc' := 309) rfl ?_
  refine own_bipush X4 hx (hb hby d9_309) (z := (32 : Int32)) (by decide) (pc' := 311) rfl ?_
  refine own_lshl X4 hx (hb hby d9_311) (pc' := 312) rfl ?_
  refine own_lload X4 hx (hb hby d9_312) rfl (pc' := 314) rfl ?_
  refine own_bipush X4 hx (hb hby d9_314) (z := (32 : Int32)) (by decide) (pc' := 316) rfl ?_
  refine own_lushr X4 hx (hb hby d9_316) (pc' := 317) rfl ?_
  refine own_lor X4 hx (hb hby d9_317) (pc' := 318) rfl ?_
  rw [own_r32]
  refine own_lstore X4 hx (hb hby d9_318) (l' := #[vR ra, vR rb, vI u2, vI u3, vL ((own_rot (t2.1 + t2.2.1) (32 : Int32)) + ((own_rot (t2.2.2.2 ^^^ (0 : Int64)) (16 : Int32)) ^^^ (t2.2.2.1 + (t2.2.2.2 ^^^ (0 : Int64))))), vS, vL ((own_rot ((own_rot t2.2.1 (13 : Int32)) ^^^ (t2.1 + t2.2.1)) (17 : Int32)) ^^^ ((t2.2.2.1 + (t2.2.2.2 ^^^ (0 : Int64))) + ((own_rot t2.2.1 (13 : Int32)) ^^^ (t2.1 + t2.2.1)))), vS, vL (own_rot ((t2.2.2.1 + (t2.2.2.2 ^^^ (0 : Int64))) + ((own_rot t2.2.1 (13 : Int32)) ^^^ (t2.1 + t2.2.1))) (32 : Int32)), vS, vL ((own_rot ((own_rot (t2.2.2.2 ^^^ (0 : Int64)) (16 : Int32)) ^^^ (t2.2.2.1 + (t2.2.2.2 ^^^ (0 : Int64)))) (21 : Int32)) ^^^ ((own_rot (t2.1 + t2.2.1) (32 : Int32)) + ((own_rot (t2.2.2.2 ^^^ (0 : Int64)) (16 : Int32)) ^^^ (t2.2.2.1 + (t2.2.2.2 ^^^ (0 : Int64)))))), vS, vI (u3 - u2), vI ((0 : Int32) + (1 : Int32)), vI (2 : Int32), vL (0 : Int64), vS, vI oa0, vI u3, vI ob0]) rfl (pc' := 320) rfl ?_
  refine own_lload X4 hx (hb hby d9_320) rfl (pc' := 322) rfl ?_
  refine own_lload X4 hx (hb hby d9_322) rfl (pc' := 324) rfl ?_
  refine own_lxor X4 hx (hb hby d9_324) (pc' := 325) rfl ?_
  refine own_lstore X4 hx (hb hby d9_325) (l' := #[vR ra, vR rb, vI u2, vI u3, vL (((own_rot (t2.1 + t2.2.1) (32 : Int32)) + ((own_rot (t2.2.2.2 ^^^ (0 : Int64)) (16 : Int32)) ^^^ (t2.2.2.1 + (t2.2.2.2 ^^^ (0 : Int64))))) ^^^ (0 : Int64)), vS, vL ((own_rot ((own_rot t2.2.1 (13 : Int32)) ^^^ (t2.1 + t2.2.1)) (17 : Int32)) ^^^ ((t2.2.2.1 + (t2.2.2.2 ^^^ (0 : Int64))) + ((own_rot t2.2.1 (13 : Int32)) ^^^ (t2.1 + t2.2.1)))), vS, vL (own_rot ((t2.2.2.1 + (t2.2.2.2 ^^^ (0 : Int64))) + ((own_rot t2.2.1 (13 : Int32)) ^^^ (t2.1 + t2.2.1))) (32 : Int32)), vS, vL ((own_rot ((own_rot (t2.2.2.2 ^^^ (0 : Int64)) (16 : Int32)) ^^^ (t2.2.2.1 + (t2.2.2.2 ^^^ (0 : Int64)))) (21 : Int32)) ^^^ ((own_rot (t2.1 + t2.2.1) (32 : Int32)) + ((own_rot (t2.2.2.2 ^^^ (0 : Int64)) (16 : Int32)) ^^^ (t2.2.2.1 + (t2.2.2.2 ^^^ (0 : Int64)))))), vS, vI (u3 - u2), vI ((0 : Int32) + (1 : Int32)), vI (2 : Int32), vL (0 : Int64), vS, vI oa0, vI u3, vI ob0]) rfl (pc' := 327) rfl ?_
  refine own_iinc X4 hx (hb hby d9_327) rfl (z := (1 : Int32)) rfl (l' := #[vR ra, vR rb, vI u2, vI u3, vL (((own_rot (t2.1 + t2.2.1) (32 : Int32)) + ((own_rot (t2.2.2.2 ^^^ (0 : Int64)) (16 : Int32)) ^^^ (t2.2.2.1 + (t2.2.2.2 ^^^ (0 : Int64))))) ^^^ (0 : Int64)), vS, vL ((own_rot ((own_rot t2.2.1 (13 : Int32)) ^^^ (t2.1 + t2.2.1)) (17 : Int32)) ^^^ ((t2.2.2.1 + (t2.2.2.2 ^^^ (0 : Int64))) + ((own_rot t2.2.1 (13 : Int32)) ^^^ (t2.1 + t2.2.1)))), vS, vL (own_rot ((t2.2.2.1 + (t2.2.2.2 ^^^ (0 : Int64))) + ((own_rot t2.2.1 (13 : Int32)) ^^^ (t2.1 + t2.2.1))) (32 : Int32)), vS, vL ((own_rot ((own_rot (t2.2.2.2 ^^^ (0 : Int64)) (16 : Int32)) ^^^ (t2.2.2.1 + (t2.2.2.2 ^^^ (0 : Int64)))) (21 : Int32)) ^^^ ((own_rot (t2.1 + t2.2.1) (32 : Int32)) + ((own_rot (t2.2.2.2 ^^^ (0 : Int64)) (16 : Int32)) ^^^ (t2.2.2.1 + (t2.2.2.2 ^^^ (0 : Int64)))))), vS, vI (u3 - u2), vI ((0 : Int32) + (1 : Int32)), vI ((2 : Int32) + (1 : Int32)), vL (0 : Int64), vS, vI oa0, vI u3, vI ob0]) rfl (pc' := 330) rfl ?_
  refine own_goto X4 hx (hb hby d9_330) (by decide) (pc' := 57) rfl ?_
  show own_G p e below s _ _ _ (T4.setTop (mkF m 57 #[vR ra, vR rb, vI u2, vI u3, vL ((own_comp (0 : Int64) t2).1), vS, vL ((own_comp (0 : Int64) t2).2.1), vS, vL ((own_comp (0 : Int64) t2).2.2.1), vS, vL ((own_comp (0 : Int64) t2).2.2.2), vS, vI (u3 - u2), vI ((0 : Int32) + (1 : Int32)), vI (3 : Int32), vL (0 : Int64), vS, vI oa0, vI u3, vI ob0] []))
  generalize ht3 : (own_comp (0 : Int64) t2) = t3
  refine own_iload X4 hx (hb hby d9_57) rfl (pc' := 59) rfl ?_
  refine own_iload X4 hx (hb hby d9_59) rfl (pc' := 61) rfl ?_
  refine own_iconst X4 hx (hb hby d9_61) (z := (3 : Int32)) rfl (pc' := 62) rfl ?_
  refine own_iadd X4 hx (hb hby d9_62) (pc' := 63) rfl ?_
  refine own_icmpF X4 hx (hb hby d9_63) (by decide) (pc' := 66) rfl ?_
  refine own_lconst X4 hx (hb hby d9_66) (z := (0 : Int64)) (by decide) (pc' := 67) rfl ?_
  refine own_lstore X4 hx (hb hby d9_67) (l' := #[vR ra, vR rb, vI u2, vI u3, vL t3.1, vS, vL t3.2.1, vS, vL t3.2.2.1, vS, vL t3.2.2.2, vS, vI (u3 - u2), vI ((0 : Int32) + (1 : Int32)), vI (3 : Int32), vL (0 : Int64), vS, vI oa0, vI u3, vI ob0]) rfl (pc' := 69) rfl ?_
  refine own_iload X4 hx (hb hby d9_69) rfl (pc' := 71) rfl ?_
  refine own_iload X4 hx (hb hby d9_71) rfl (pc' := 73) rfl ?_
  refine own_icmpT X4 hx (hb hby d9_73) (by decide) (by decide) (pc' := 164) rfl ?_
  refine own_iload X4 hx (hb hby d9_164) rfl (pc' := 166) rfl ?_
  refine own_iload X4 hx (hb hby d9_166) rfl (pc' := 168) rfl ?_
  refine own_icmpT X4 hx (hb hby d9_168) (by decide) (by decide) (pc' := 179) rfl ?_
  refine own_lload X4 hx (hb hby d9_179) rfl (pc' := 181) rfl ?_
  refine own_lload X4 hx (hb hby d9_181) rfl (pc' := 183) rfl ?_
  refine own_lxor X4 hx (hb hby d9_183) (pc' := 184) rfl ?_
  refine own_lstore X4 hx (hb hby d9_184) (l' := #[vR ra, vR rb, vI u2, vI u3, vL t3.1, vS, vL t3.2.1, vS, vL t3.2.2.1, vS, vL (t3.2.2.2 ^^^ (0 : Int64)), vS, vI (u3 - u2), vI ((0 : Int32) + (1 : Int32)), vI (3 : Int32), vL (0 : Int64), vS, vI oa0, vI u3, vI ob0]) rfl (pc' := 186) rfl ?_
  refine own_lload X4 hx (hb hby d9_186) rfl (pc' := 188) rfl ?_
  refine own_lload X4 hx (hb hby d9_188) rfl (pc' := 190) rfl ?_
  refine own_ladd X4 hx (hb hby d9_190) (pc' := 191) rfl ?_
  refine own_lstore X4 hx (hb hby d9_191) (l' := #[vR ra, vR rb, vI u2, vI u3, vL (t3.1 + t3.2.1), vS, vL t3.2.1, vS, vL t3.2.2.1, vS, vL (t3.2.2.2 ^^^ (0 : Int64)), vS, vI (u3 - u2), vI ((0 : Int32) + (1 : Int32)), vI (3 : Int32), vL (0 : Int64), vS, vI oa0, vI u3, vI ob0]) rfl (pc' := 193) rfl ?_
  refine own_lload X4 hx (hb hby d9_193) rfl (pc' := 195) rfl ?_
  refine own_bipush X4 hx (hb hby d9_195) (z := (13 : Int32)) (by decide) (pc' := 197) rfl ?_
  refine own_lshl X4 hx (hb hby d9_197) (pc' := 198) rfl ?_
  refine own_lload X4 hx (hb hby d9_198) rfl (pc' := 200) rfl ?_
  refine own_bipush X4 hx (hb hby d9_200) (z := (51 : Int32)) (by decide) (pc' := 202) rfl ?_
  refine own_lushr X4 hx (hb hby d9_202) (pc' := 203) rfl ?_
  refine own_lor X4 hx (hb hby d9_203) (pc' := 204) rfl ?_
  rw [own_r13]
  refine own_lstore X4 hx (hb hby d9_204) (l' := #[vR ra, vR rb, vI u2, vI u3, vL (t3.1 + t3.2.1), vS, vL (own_rot t3.2.1 (13 : Int32)), vS, vL t3.2.2.1, vS, vL (t3.2.2.2 ^^^ (0 : Int64)), vS, vI (u3 - u2), vI ((0 : Int32) + (1 : Int32)), vI (3 : Int32), vL (0 : Int64), vS, vI oa0, vI u3, vI ob0]) rfl (pc' := 206) rfl ?_
  refine own_lload X4 hx (hb hby d9_206) rfl (pc' := 208) rfl ?_
  refine own_lload X4 hx (hb hby d9_208) rfl (pc' := 210) rfl ?_
  refine own_lxor X4 hx (hb hby d9_210) (pc' := 211) rfl ?_
  refine own_lstore X4 hx (hb hby d9_211) (l' := #[vR ra, vR rb, vI u2, vI u3, vL (t3.1 + t3.2.1), vS, vL ((own_rot t3.2.1 (13 : Int32)) ^^^ (t3.1 + t3.2.1)), vS, vL t3.2.2.1, vS, vL (t3.2.2.2 ^^^ (0 : Int64)), vS, vI (u3 - u2), vI ((0 : Int32) + (1 : Int32)), vI (3 : Int32), vL (0 : Int64), vS, vI oa0, vI u3, vI ob0]) rfl (pc' := 213) rfl ?_
  refine own_lload X4 hx (hb hby d9_213) rfl (pc' := 215) rfl ?_
  refine own_bipush X4 hx (hb hby d9_215) (z := (32 : Int32)) (by decide) (pc' := 217) rfl ?_
  refine own_lshl X4 hx (hb hby d9_217) (pc' := 218) rfl ?_
  refine own_lload X4 hx (hb hby d9_218) rfl (pc' := 220) rfl ?_
  refine own_bipush X4 hx (hb hby d9_220) (z := (32 : Int32)) (by decide) (pc' := 222) rfl ?_
  refine own_lushr X4 hx (hb hby d9_222) (pc' := 223) rfl ?_
  refine own_lor X4 hx (hb hby d9_223) (pc' := 224) rfl ?_
  rw [own_r32]
  refine own_lstore X4 hx (hb hby d9_224) (l' := #[vR ra, vR rb, vI u2, vI u3, vL (own_rot (t3.1 + t3.2.1) (32 : Int32)), vS, vL ((own_rot t3.2.1 (13 : Int32)) ^^^ (t3.1 + t3.2.1)), vS, vL t3.2.2.1, vS, vL (t3.2.2.2 ^^^ (0 : Int64)), vS, vI (u3 - u2), vI ((0 : Int32) + (1 : Int32)), vI (3 : Int32), vL (0 : Int64), vS, vI oa0, vI u3, vI ob0]) rfl (pc' := 226) rfl ?_
  refine own_lload X4 hx (hb hby d9_226) rfl (pc' := 228) rfl ?_
  refine own_lload X4 hx (hb hby d9_228) rfl (pc' := 230) rfl ?_
  refine own_ladd X4 hx (hb hby d9_230) (pc' := 231) rfl ?_
  refine own_lstore X4 hx (hb hby d9_231) (l' := #[vR ra, vR rb, vI u2, vI u3, vL (own_rot (t3.1 + t3.2.1) (32 : Int32)), vS, vL ((own_rot t3.2.1 (13 : Int32)) ^^^ (t3.1 + t3.2.1)), vS, vL (t3.2.2.1 + (t3.2.2.2 ^^^ (0 : Int64))), vS, vL (t3.2.2.2 ^^^ (0 : Int64)), vS, vI (u3 - u2), vI ((0 : Int32) + (1 : Int32)), vI (3 : Int32), vL (0 : Int64), vS, vI oa0, vI u3, vI ob0]) rfl (pc' := 233) rfl ?_
  refine own_lload X4 hx (hb hby d9_233) rfl (pc' := 235) rfl ?_
  refine own_bipush X4 hx (hb hby d9_235) (z := (16 : Int32)) (by decide) (pc' := 237) rfl ?_
  refine own_lshl X4 hx (hb hby d9_237) (pc' := 238) rfl ?_
  refine own_lload X4 hx (hb hby d9_238) rfl (pc' := 240) rfl ?_
  refine own_bipush X4 hx (hb hby d9_240) (z := (48 : Int32)) (by decide) (pc' := 242) rfl ?_
  refine own_lushr X4 hx (hb hby d9_242) (pc' := 243) rfl ?_
  refine own_lor X4 hx (hb hby d9_243) (pc' := 244) rfl ?_
  rw [own_r16]
  refine own_lstore X4 hx (hb hby d9_244) (l' := #[vR ra, vR rb, vI u2, vI u3, vL (own_rot (t3.1 + t3.2.1) (32 : Int32)), vS, vL ((own_rot t3.2.1 (13 : Int32)) ^^^ (t3.1 + t3.2.1)), vS, vL (t3.2.2.1 + (t3.2.2.2 ^^^ (0 : Int64))), vS, vL (own_rot (t3.2.2.2 ^^^ (0 : Int64)) (16 : Int32)), vS, vI (u3 - u2), vI ((0 : Int32) + (1 : Int32)), vI (3 : Int32), vL (0 : Int64), vS, vI oa0, vI u3, vI ob0]) rfl (pc' := 246) rfl ?_
  refine own_lload X4 hx (hb hby d9_246) rfl (pc' := 248) rfl ?_
  refine own_lload X4 hx (hb hby d9_248) rfl (pc' := 250) rfl ?_
  refine own_lxor X4 hx (hb hby d9_250) (pc' := 251) rfl ?_
  refine own_lstore X4 hx (hb hby d9_251) (l' := #[vR ra, vR rb, vI u2, vI u3, vL (own_rot (t3.1 + t3.2.1) (32 : Int32)), vS, vL ((own_rot t3.2.1 (13 : Int32)) ^^^ (t3.1 + t3.2.1)), vS, vL (t3.2.2.1 + (t3.2.2.2 ^^^ (0 : Int64))), vS, vL ((own_rot (t3.2.2.2 ^^^ (0 : Int64)) (16 : Int32)) ^^^ (t3.2.2.1 + (t3.2.2.2 ^^^ (0 : Int64)))), vS, vI (u3 - u2), vI ((0 : Int32) + (1 : Int32)), vI (3 : Int32), vL (0 : Int64), vS, vI oa0, vI u3, vI ob0]) rfl (pc' := 253) rfl ?_
  refine own_lload X4 hx (hb hby d9_253) rfl (pc' := 255) rfl ?_
  refine own_lload X4 hx (hb hby d9_255) rfl (pc' := 257) rfl ?_
  refine own_ladd X4 hx (hb hby d9_257) (pc' := 258) rfl ?_
  refine own_lstore X4 hx (hb hby d9_258) (l' := #[vR ra, vR rb, vI u2, vI u3, vL ((own_rot (t3.1 + t3.2.1) (32 : Int32)) + ((own_rot (t3.2.2.2 ^^^ (0 : Int64)) (16 : Int32)) ^^^ (t3.2.2.1 + (t3.2.2.2 ^^^ (0 : Int64))))), vS, vL ((own_rot t3.2.1 (13 : Int32)) ^^^ (t3.1 + t3.2.1)), vS, vL (t3.2.2.1 + (t3.2.2.2 ^^^ (0 : Int64))), vS, vL ((own_rot (t3.2.2.2 ^^^ (0 : Int64)) (16 : Int32)) ^^^ (t3.2.2.1 + (t3.2.2.2 ^^^ (0 : Int64)))), vS, vI (u3 - u2), vI ((0 : Int32) + (1 : Int32)), vI (3 : Int32), vL (0 : Int64), vS, vI oa0, vI u3, vI ob0]) rfl (pc' := 260) rfl ?_
  refine own_lload X4 hx (hb hby d9_260) rfl (pc' := 262) rfl ?_
  refine own_bipush X4 hx (hb hby d9_262) (z := (21 : Int32)) (by decide) (pc' := 264) rfl ?_
  refine own_lshl X4 hx (hb hby d9_264) (pc' := 265) rfl ?_
  refine own_lload X4 hx (hb hby d9_265) rfl (pc' := 267) rfl ?_
  refine own_bipush X4 hx (hb hby d9_267) (z := (43 : Int32)) (by decide) (pc' := 269) rfl ?_
  refine own_lushr X4 hx (hb hby d9_269) (pc' := 270) rfl ?_
  refine own_lor X4 hx (hb hby d9_270) (pc' := 271) rfl ?_
  rw [own_r21]
  refine own_lstore X4 hx (hb hby d9_271) (l' := #[vR ra, vR rb, vI u2, vI u3, vL ((own_rot (t3.1 + t3.2.1) (32 : Int32)) + ((own_rot (t3.2.2.2 ^^^ (0 : Int64)) (16 : Int32)) ^^^ (t3.2.2.1 + (t3.2.2.2 ^^^ (0 : Int64))))), vS, vL ((own_rot t3.2.1 (13 : Int32)) ^^^ (t3.1 + t3.2.1)), vS, vL (t3.2.2.1 + (t3.2.2.2 ^^^ (0 : Int64))), vS, vL (own_rot ((own_rot (t3.2.2.2 ^^^ (0 : Int64)) (16 : Int32)) ^^^ (t3.2.2.1 + (t3.2.2.2 ^^^ (0 : Int64)))) (21 : Int32)), vS, vI (u3 - u2), vI ((0 : Int32) + (1 : Int32)), vI (3 : Int32), vL (0 : Int64), vS, vI oa0, vI u3, vI ob0]) rfl (pc' := 273) rfl ?_
  refine own_lload X4 hx (hb hby d9_273) rfl (pc' := 275) rfl ?_
  refine own_lload X4 hx (hb hby d9_275) rfl (pc' := 277) rfl ?_
  refine own_lxor X4 hx (hb hby d9_277) (pc' := 278) rfl ?_
  refine own_lstore X4 hx (hb hby d9_278) (l' := #[vR ra, vR rb, vI u2, vI u3, vL ((own_rot (t3.1 + t3.2.1) (32 : Int32)) + ((own_rot (t3.2.2.2 ^^^ (0 : Int64)) (16 : Int32)) ^^^ (t3.2.2.1 + (t3.2.2.2 ^^^ (0 : Int64))))), vS, vL ((own_rot t3.2.1 (13 : Int32)) ^^^ (t3.1 + t3.2.1)), vS, vL (t3.2.2.1 + (t3.2.2.2 ^^^ (0 : Int64))), vS, vL ((own_rot ((own_rot (t3.2.2.2 ^^^ (0 : Int64)) (16 : Int32)) ^^^ (t3.2.2.1 + (t3.2.2.2 ^^^ (0 : Int64)))) (21 : Int32)) ^^^ ((own_rot (t3.1 + t3.2.1) (32 : Int32)) + ((own_rot (t3.2.2.2 ^^^ (0 : Int64)) (16 : Int32)) ^^^ (t3.2.2.1 + (t3.2.2.2 ^^^ (0 : Int64)))))), vS, vI (u3 - u2), vI ((0 : Int32) + (1 : Int32)), vI (3 : Int32), vL (0 : Int64), vS, vI oa0, vI u3, vI ob0]) rfl (pc' := 280) rfl ?_
  refine own_lload X4 hx (hb hby d9_280) rfl (pc' := 282) rfl ?_
  refine own_lload X4 hx (hb hby d9_282) rfl (pc' := 284) rfl ?_
  refine own_ladd X4 hx (hb hby d9_284) (pc' := 285) rfl ?_
  refine own_lstore X4 hx (hb hby d9_285) (l' := #[vR ra, vR rb, vI u2, vI u3, vL ((own_rot (t3.1 + t3.2.1) (32 : Int32)) + ((own_rot (t3.2.2.2 ^^^ (0 : Int64)) (16 : Int32)) ^^^ (t3.2.2.1 + (t3.2.2.2 ^^^ (0 : Int64))))), vS, vL ((own_rot t3.2.1 (13 : Int32)) ^^^ (t3.1 + t3.2.1)), vS, vL ((t3.2.2.1 + (t3.2.2.2 ^^^ (0 : Int64))) + ((own_rot t3.2.1 (13 : Int32)) ^^^ (t3.1 + t3.2.1))), vS, vL ((own_rot ((own_rot (t3.2.2.2 ^^^ (0 : Int64)) (16 : Int32)) ^^^ (t3.2.2.1 + (t3.2.2.2 ^^^ (0 : Int64)))) (21 : Int32)) ^^^ ((own_rot (t3.1 + t3.2.1) (32 : Int32)) + ((own_rot (t3.2.2.2 ^^^ (0 : Int64)) (16 : Int32)) ^^^ (t3.2.2.1 + (t3.2.2.2 ^^^ (0 : Int64)))))), vS, vI (u3 - u2), vI ((0 : Int32) + (1 : Int32)), vI (3 : Int32), vL (0 : Int64), vS, vI oa0, vI u3, vI ob0]) rfl (pc' := 287) rfl ?_
  refine own_lload X4 hx (hb hby d9_287) rfl (pc' := 289) rfl ?_
  refine own_bipush X4 hx (hb hby d9_289) (z := (17 : Int32)) (by decide) (pc' := 291) rfl ?_
  refine own_lshl X4 hx (hb hby d9_291) (pc' := 292) rfl ?_
  refine own_lload X4 hx (hb hby d9_292) rfl (pc' := 294) rfl ?_
  refine own_bipush X4 hx (hb hby d9_294) (z := (47 : Int32)) (by decide) (pc' := 296) rfl ?_
  refine own_lushr X4 hx (hb hby d9_296) (pc' := 297) rfl ?_
  refine own_lor X4 hx (hb hby d9_297) (pc' := 298) rfl ?_
  rw [own_r17]
  refine own_lstore X4 hx (hb hby d9_298) (l' := #[vR ra, vR rb, vI u2, vI u3, vL ((own_rot (t3.1 + t3.2.1) (32 : Int32)) + ((own_rot (t3.2.2.2 ^^^ (0 : Int64)) (16 : Int32)) ^^^ (t3.2.2.1 + (t3.2.2.2 ^^^ (0 : Int64))))), vS, vL (own_rot ((own_rot t3.2.1 (13 : Int32)) ^^^ (t3.1 + t3.2.1)) (17 : Int32)), vS, vL ((t3.2.2.1 + (t3.2.2.2 ^^^ (0 : Int64))) + ((own_rot t3.2.1 (13 : Int32)) ^^^ (t3.1 + t3.2.1))), vS, vL ((own_rot ((own_rot (t3.2.2.2 ^^^ (0 : Int64)) (16 : Int32)) ^^^ (t3.2.2.1 + (t3.2.2.2 ^^^ (0 : Int64)))) (21 : Int32)) ^^^ ((own_rot (t3.1 + t3.2.1) (32 : Int32)) + ((own_rot (t3.2.2.2 ^^^ (0 : Int64)) (16 : Int32)) ^^^ (t3.2.2.1 + (t3.2.2.2 ^^^ (0 : Int64)))))), vS, vI (u3 - u2), vI ((0 : Int32) + (1 : Int32)), vI (3 : Int32), vL (0 : Int64), vS, vI oa0, vI u3, vI ob0]) rfl (pc' := 300) rfl ?_
  refine own_lload X4 hx (hb hby d9_300) rfl (pc' := 302) rfl ?_
  refine own_lload X4 hx (hb hby d9_302) rfl (pc' := 304) rfl ?_
  refine own_lxor X4 hx (hb hby d9_304) (pc' := 305) rfl ?_
  refine own_lstore X4 hx (hb hby d9_305) (l' := #[vR ra, vR rb, vI u2, vI u3, vL ((own_rot (t3.1 + t3.2.1) (32 : Int32)) + ((own_rot (t3.2.2.2 ^^^ (0 : Int64)) (16 : Int32)) ^^^ (t3.2.2.1 + (t3.2.2.2 ^^^ (0 : Int64))))), vS, vL ((own_rot ((own_rot t3.2.1 (13 : Int32)) ^^^ (t3.1 + t3.2.1)) (17 : Int32)) ^^^ ((t3.2.2.1 + (t3.2.2.2 ^^^ (0 : Int64))) + ((own_rot t3.2.1 (13 : Int32)) ^^^ (t3.1 + t3.2.1)))), vS, vL ((t3.2.2.1 + (t3.2.2.2 ^^^ (0 : Int64))) + ((own_rot t3.2.1 (13 : Int32)) ^^^ (t3.1 + t3.2.1))), vS, vL ((own_rot ((own_rot (t3.2.2.2 ^^^ (0 : Int64)) (16 : Int32)) ^^^ (t3.2.2.1 + (t3.2.2.2 ^^^ (0 : Int64)))) (21 : Int32)) ^^^ ((own_rot (t3.1 + t3.2.1) (32 : Int32)) + ((own_rot (t3.2.2.2 ^^^ (0 : Int64)) (16 : Int32)) ^^^ (t3.2.2.1 + (t3.2.2.2 ^^^ (0 : Int64)))))), vS, vI (u3 - u2), vI ((0 : Int32) + (1 : Int32)), vI (3 : Int32), vL (0 : Int64), vS, vI oa0, vI u3, vI ob0]) rfl (pc' := 307) rfl ?_
  refine own_lload X4 hx (hb hby d9_307) rfl (pc' := 309) rfl ?_
  refine own_bipush X4 hx (hb hby d9_309) (z := (32 : Int32)) (by decide) (pc' := 311) rfl ?_
  refine own_lshl X4 hx (hb hby d9_311) (pc' := 312) rfl ?_
  refine own_lload X4 hx (hb hby d9_312) rfl (pc' := 314) rfl ?_
  refine own_bipush X4 hx (hb hby d9_314) (z := (32 : Int32)) (by decide) (pc' := 316) rfl ?_
  refine own_lushr X4 hx (hb hby d9_316) (pc' := 317) rfl ?_
  refine own_lor X4 hx (hb hby d9_317) (pc' := 318) rfl ?_
  rw [own_r32]
  refine own_lstore X4 hx (hb hby d9_318) (l' := #[vR ra, vR rb, vI u2, vI u3, vL ((own_rot (t3.1 + t3.2.1) (32 : Int32)) + ((own_rot (t3.2.2.2 ^^^ (0 : Int64)) (16 : Int32)) ^^^ (t3.2.2.1 + (t3.2.2.2 ^^^ (0 : Int64))))), vS, vL ((own_rot ((own_rot t3.2.1 (13 : Int32)) ^^^ (t3.1 + t3.2.1)) (17 : Int32)) ^^^ ((t3.2.2.1 + (t3.2.2.2 ^^^ (0 : Int64))) + ((own_rot t3.2.1 (13 : Int32)) ^^^ (t3.1 + t3.2.1)))), vS, vL (own_rot ((t3.2.2.1 + (t3.2.2.2 ^^^ (0 : Int64))) + ((own_rot t3.2.1 (13 : Int32)) ^^^ (t3.1 + t3.2.1))) (32 : Int32)), vS, vL ((own_rot ((own_rot (t3.2.2.2 ^^^ (0 : Int64)) (16 : Int32)) ^^^ (t3.2.2.1 + (t3.2.2.2 ^^^ (0 : Int64)))) (21 : Int32)) ^^^ ((own_rot (t3.1 + t3.2.1) (32 : Int32)) + ((own_rot (t3.2.2.2 ^^^ (0 : Int64)) (16 : Int32)) ^^^ (t3.2.2.1 + (t3.2.2.2 ^^^ (0 : Int64)))))), vS, vI (u3 - u2), vI ((0 : Int32) + (1 : Int32)), vI (3 : Int32), vL (0 : Int64), vS, vI oa0, vI u3, vI ob0]) rfl (pc' := 320) rfl ?_
  refine own_lload X4 hx (hb hby d9_320) rfl (pc' := 322) rfl ?_
  refine own_lload X4 hx (hb hby d9_322) rfl (pc' := 324) rfl ?_
  refine own_lxor X4 hx (hb hby d9_324) (pc' := 325) rfl ?_
  refine own_lstore X4 hx (hb hby d9_325) (l' := #[vR ra, vR rb, vI u2, vI u3, vL (((own_rot (t3.1 + t3.2.1) (32 : Int32)) + ((own_rot (t3.2.2.2 ^^^ (0 : Int64)) (16 : Int32)) ^^^ (t3.2.2.1 + (t3.2.2.2 ^^^ (0 : Int64))))) ^^^ (0 : Int64)), vS, vL ((own_rot ((own_rot t3.2.1 (13 : Int32)) ^^^ (t3.1 + t3.2.1)) (17 : Int32)) ^^^ ((t3.2.2.1 + (t3.2.2.2 ^^^ (0 : Int64))) + ((own_rot t3.2.1 (13 : Int32)) ^^^ (t3.1 + t3.2.1)))), vS, vL (own_rot ((t3.2.2.1 + (t3.2.2.2 ^^^ (0 : Int64))) + ((own_rot t3.2.1 (13 : Int32)) ^^^ (t3.1 + t3.2.1))) (32 : Int32)), vS, vL ((own_rot ((own_rot (t3.2.2.2 ^^^ (0 : Int64)) (16 : Int32)) ^^^ (t3.2.2.1 + (t3.2.2.2 ^^^ (0 : Int64)))) (21 : Int32)) ^^^ ((own_rot (t3.1 + t3.2.1) (32 : Int32)) + ((own_rot (t3.2.2.2 ^^^ (0 : Int64)) (16 : Int32)) ^^^ (t3.2.2.1 + (t3.2.2.2 ^^^ (0 : Int64)))))), vS, vI (u3 - u2), vI ((0 : Int32) + (1 : Int32)), vI (3 : Int32), vL (0 : Int64), vS, vI oa0, vI u3, vI ob0]) rfl (pc' := 327) rfl ?_
  refine own_iinc X4 hx (hb hby d9_327) rfl (z := (1 : Int32)) rfl (l' := #[vR ra, vR rb, vI u2, vI u3, vL (((own_rot (t3.1 + t3.2.1) (32 : Int32)) + ((own_rot (t3.2.2.2 ^^^ (0 : Int64)) (16 : Int32)) ^^^ (t3.2.2.1 + (t3.2.2.2 ^^^ (0 : Int64))))) ^^^ (0 : Int64)), vS, vL ((own_rot ((own_rot t3.2.1 (13 : Int32)) ^^^ (t3.1 + t3.2.1)) (17 : Int32)) ^^^ ((t3.2.2.1 + (t3.2.2.2 ^^^ (0 : Int64))) + ((own_rot t3.2.1 (13 : Int32)) ^^^ (t3.1 + t3.2.1)))), vS, vL (own_rot ((t3.2.2.1 + (t3.2.2.2 ^^^ (0 : Int64))) + ((own_rot t3.2.1 (13 : Int32)) ^^^ (t3.1 + t3.2.1))) (32 : Int32)), vS, vL ((own_rot ((own_rot (t3.2.2.2 ^^^ (0 : Int64)) (16 : Int32)) ^^^ (t3.2.2.1 + (t3.2.2.2 ^^^ (0 : Int64)))) (21 : Int32)) ^^^ ((own_rot (t3.1 + t3.2.1) (32 : Int32)) + ((own_rot (t3.2.2.2 ^^^ (0 : Int64)) (16 : Int32)) ^^^ (t3.2.2.1 + (t3.2.2.2 ^^^ (0 : Int64)))))), vS, vI (u3 - u2), vI ((0 : Int32) + (1 : Int32)), vI ((3 : Int32) + (1 : Int32)), vL (0 : Int64), vS, vI oa0, vI u3, vI ob0]) rfl (pc' := 330) rfl ?_
  refine own_goto X4 hx (hb hby d9_330) (by decide) (pc' := 57) rfl ?_
  show own_G p e below s _ _ _ (T4.setTop (mkF m 57 #[vR ra, vR rb, vI u2, vI u3, vL ((own_comp (0 : Int64) t3).1), vS, vL ((own_comp (0 : Int64) t3).2.1), vS, vL ((own_comp (0 : Int64) t3).2.2.1), vS, vL ((own_comp (0 : Int64) t3).2.2.2), vS, vI (u3 - u2), vI ((0 : Int32) + (1 : Int32)), vI (4 : Int32), vL (0 : Int64), vS, vI oa0, vI u3, vI ob0] []))
  generalize ht4 : (own_comp (0 : Int64) t3) = t4
  refine own_iload X4 hx (hb hby d9_57) rfl (pc' := 59) rfl ?_
  refine own_iload X4 hx (hb hby d9_59) rfl (pc' := 61) rfl ?_
  refine own_iconst X4 hx (hb hby d9_61) (z := (3 : Int32)) rfl (pc' := 62) rfl ?_
  refine own_iadd X4 hx (hb hby d9_62) (pc' := 63) rfl ?_
  refine own_icmpT X4 hx (hb hby d9_63) (by decide) (by decide) (pc' := 333) rfl ?_
  refine own_lload X4 hx (hb hby d9_333) rfl (pc' := 335) rfl ?_
  refine own_lload X4 hx (hb hby d9_335) rfl (pc' := 337) rfl ?_
  refine own_lxor X4 hx (hb hby d9_337) (pc' := 338) rfl ?_
  refine own_lload X4 hx (hb hby d9_338) rfl (pc' := 340) rfl ?_
  refine own_lxor X4 hx (hb hby d9_340) (pc' := 341) rfl ?_
  refine own_lload X4 hx (hb hby d9_341) rfl (pc' := 343) rfl ?_
  refine own_lxor X4 hx (hb hby d9_343) (pc' := 344) rfl ?_
  exact own_retL X4 hx hret hlk (hb hby d9_344) ⟨(by subst ht4 ht3 ht2 ht1 ht0 hM0; rfl), N0, e4⟩ (by decide) (by decide)
theorem d9_98 : decode prog_186_method_3_code 98 = .ok (.iload 17, 2) := by decide +kernel
theorem d9_100 : decode prog_186_method_3_code 100 = .ok (.bipush 8, 2) := by decide +kernel
theorem d9_102 : decode prog_186_method_3_code 102 = .ok (.iadd, 1) := by decide +kernel
theorem oef_rm_hash1 (m : MethodId) (ra : Addr) (rb : Addr) (u2 : Int32) (u3 : Int32) : entryFrame m #[(.ref ra), (.ref rb), (.int u2), (.int u3)] 20 = mkF m 0 #[vR ra, vR rb, vI u2, vI u3, vU, vU, vU, vU, vU, vU, vU, vU, vU, vU, vU, vU, vU, vU, vU, vU] [] := by first | (simp [entryFrame, mkF, argsToLocals, Value.category]; done) | rfl
set_option maxRecDepth 65536 in
set_option maxHeartbeats 40000000 in
theorem rm_hash1 (l : Launch) (Z : State) (a0 : Array Value) (hw : ∀ d ∈ tables_1, d.before a0 Z = true) (ra : Addr) (rb : Addr) (u2 : Int32) (u3 : Int32) (q0 : Int64) (q1 : Int64) (gg : Nat → Int32) (h0 : Heap) (n0 : Nat) (Z0 : n0 ≤ h0.size) (P0 : Fld Z h0 ra "com/example/structlane/structlane/header/SipHash" "key0" "J" (.long q0)) (P1 : Fld Z h0 ra "com/example/structlane/structlane/header/SipHash" "key1" "J" (.long q1)) (P2 : own_AI Z h0 rb .byte (24 : Int32) gg) (hs : 0 ≤ u2.toInt) (hE : u2.toInt ≤ u3.toInt ∧ u3.toInt ≤ 24) (hD : ((u3 - u2) / (8 : Int32)) = (1 : Int32)) :
    own_M l Z (⟨"com/example/structlane/structlane/header/SipHash", "hash", "([BII)J"⟩ : MethodName) prog_186_method_3_code 20 (some .long) [] ({ frames := 0, cells := 0, slots := 0, locals := 0 } : Room) #[(.ref ra), (.ref rb), (.int u2), (.int u3)] h0 (fun v h L => v = some (.long (own_x4 (own_comp (0 : Int64) (own_comp (0 : Int64) (own_comp (0 : Int64) (own_ff (own_comp ((own_le8 gg (u2 + ((1 : Int32) * (8 : Int32))) (u3 - (u2 + ((1 : Int32) * (8 : Int32))))) ||| ((u3 - u2).toInt64 <<< ((56 : Int32) &&& 0x3f).toInt64)) (own_comp (own_le8 gg (u2 + ((0 : Int32) * (8 : Int32))) (8 : Int32)) ((q0 ^^^ (8317987319222330741 : Int64)), (q1 ^^^ (7237128888997146477 : Int64)), (q0 ^^^ (7816392313619706465 : Int64)), (q1 ^^^ (8387220255154660723 : Int64))))))))))) ∧ Fr n0 L ∧ (h = h0)) 0 0 := by
  refine own_body (plainFor_of_name opn_com_example_structlane_structlane_header_SipHash) ?_
  intro p e s m below meth c s1 hx hby hml hown hnm hret hlk hZ X0 e0
  rw [oef_rm_hash1 m ra rb u2 u3]
  have N0 := Fr.nil n0
  have hu := rng32 u2
  have hlen := own_sub u3 u2 ⟨hs, hE.1⟩
  have hB := own_blk (by omega) hD
  simp only [Int32.reduceToInt] at hB
  refine own_aloadN X0 hx (hb hby d9_0) rfl rfl (pc' := 1) rfl ?_
  refine own_getF X0 hx hZ hown (ow_36 hw) e0 P0 (hb hby d9_1) (pc' := 4) rfl ?_
  intro T1 X1 e1
  refine own_ldc2 X1 hx hZ hown (ow_45 hw) (hb hby d9_4) (pc' := 7) rfl ?_
  refine own_lxor X1 hx (hb hby d9_7) (pc' := 8) rfl ?_
  refine own_lstore X1 hx (hb hby d9_8) (l' := #[vR ra, vR rb, vI u2, vI u3, vL (q0 ^^^ (8317987319222330741 : Int64)), vS, vU, vU, vU, vU, vU, vU, vU, vU, vU, vU, vU, vU, vU, vU]) rfl (pc' := 10) rfl ?_
  refine own_aloadN X1 hx (hb hby d9_10) rfl rfl (pc' := 11) rfl ?_
  refine own_getF X1 hx hZ hown (ow_38 hw) e1 P1 (hb hby d9_11) (pc' := 14) rfl ?_
  intro T2 X2 e2
  refine own_ldc2 X2 hx hZ hown (ow_46 hw) (hb hby d9_14) (pc' := 17) rfl ?_
  refine own_lxor X2 hx (hb hby d9_17) (pc' := 18) rfl ?_
  refine own_lstore X2 hx (hb hby d9_18) (l' := #[vR ra, vR rb, vI u2, vI u3, vL (q0 ^^^ (8317987319222330741 : Int64)), vS, vL (q1 ^^^ (7237128888997146477 : Int64)), vS, vU, vU, vU, vU, vU, vU, vU, vU, vU, vU, vU, vU]) rfl (pc' := 20) rfl ?_
  refine own_aloadN X2 hx (hb hby d9_20) rfl rfl (pc' := 21) rfl ?_
  refine own_getF X2 hx hZ hown (ow_36 hw) e2 P0 (hb hby d9_21) (pc' := 24) rfl ?_
  intro T3 X3 e3
  refine own_ldc2 X3 hx hZ hown (ow_47 hw) (hb hby d9_24) (pc' := 27) rfl ?_
  refine own_lxor X3 hx (hb hby d9_27) (pc' := 28) rfl ?_
  refine own_lstore X3 hx (hb hby d9_28) (l' := #[vR ra, vR rb, vI u2, vI u3, vL (q0 ^^^ (8317987319222330741 : Int64)), vS, vL (q1 ^^^ (7237128888997146477 : Int64)), vS, vL (q0 ^^^ (7816392313619706465 : Int64)), vS, vU, vU, vU, vU, vU, vU, vU, vU, vU, vU]) rfl (pc' := 30) rfl ?_
  refine own_aloadN X3 hx (hb hby d9_30) rfl rfl (pc' := 31) rfl ?_
  refine own_getF X3 hx hZ hown (ow_38 hw) e3 P1 (hb hby d9_31) (pc' := 34) rfl ?_
  intro T4 X4 e4
  refine own_ldc2 X4 hx hZ hown (ow_48 hw) (hb hby d9_34) (pc' := 37) rfl ?_
  refine own_lxor X4 hx (hb hby d9_37) (pc' := 38) rfl ?_
  refine own_lstore X4 hx (hb hby d9_38) (l' := #[vR ra, vR rb, vI u2, vI u3, vL (q0 ^^^ (8317987319222330741 : Int64)), vS, vL (q1 ^^^ (7237128888997146477 : Int64)), vS, vL (q0 ^^^ (7816392313619706465 : Int64)), vS, vL (q1 ^^^ (8387220255154660723 : Int64)), vS, vU, vU, vU, vU, vU, vU, vU, vU]) rfl (pc' := 40) rfl ?_
  refine own_iloadN X4 hx (hb hby d9_40) rfl (pc' := 41) rfl ?_
  refine own_iloadN X4 hx (hb hby d9_41) rfl (pc' := 42) rfl ?_
  refine own_isub X4 hx (hb hby d9_42) (pc' := 43) rfl ?_
  refine own_istore X4 hx (hb hby d9_43) (l' := #[vR ra, vR rb, vI u2, vI u3, vL (q0 ^^^ (8317987319222330741 : Int64)), vS, vL (q1 ^^^ (7237128888997146477 : Int64)), vS, vL (q0 ^^^ (7816392313619706465 : Int64)), vS, vL (q1 ^^^ (8387220255154660723 : Int64)), vS, vI (u3 - u2), vU, vU, vU, vU, vU, vU, vU]) rfl (pc' := 45) rfl ?_
  refine own_iload X4 hx (hb hby d9_45) rfl (pc' := 47) rfl ?_
  refine own_bipush X4 hx (hb hby d9_47) (z := (8 : Int32)) (by decide) (pc' := 49) rfl ?_
  refine own_idiv X4 hx (hb hby d9_49) (by decide) (pc' := 50) rfl ?_
  rw [hD]
  refine own_iconst X4 hx (hb hby d9_50) (z := (1 : Int32)) rfl (pc' := 51) rfl ?_
  refine own_iadd X4 hx (hb hby d9_51) (pc' := 52) rfl ?_
  refine own_istore X4 hx (hb hby d9_52) (l' := #[vR ra, vR rb, vI u2, vI u3, vL (q0 ^^^ (8317987319222330741 : Int64)), vS, vL (q1 ^^^ (7237128888997146477 : Int64)), vS, vL (q0 ^^^ (7816392313619706465 : Int64)), vS, vL (q1 ^^^ (8387220255154660723 : Int64)), vS, vI (u3 - u2), vI ((1 : Int32) + (1 : Int32)), vU, vU, vU, vU, vU, vU]) rfl (pc' := 54) rfl ?_
  refine own_iconst X4 hx (hb hby d9_54) (z := (0 : Int32)) rfl (pc' := 55) rfl ?_
  refine own_istore X4 hx (hb hby d9_55) (l' := #[vR ra, vR rb, vI u2, vI u3, vL (q0 ^^^ (8317987319222330741 : Int64)), vS, vL (q1 ^^^ (7237128888997146477 : Int64)), vS, vL (q0 ^^^ (7816392313619706465 : Int64)), vS, vL (q1 ^^^ (8387220255154660723 : Int64)), vS, vI (u3 - u2), vI ((1 : Int32) + (1 : Int32)), vI (0 : Int32), vU, vU, vU, vU, vU]) rfl (pc' := 57) rfl ?_
  show own_G p e below s _ _ _ (T4.setTop (mkF m 57 #[vR ra, vR rb, vI u2, vI u3, vL ((((q0 ^^^ (8317987319222330741 : Int64)), (q1 ^^^ (7237128888997146477 : Int64)), (q0 ^^^ (7816392313619706465 : Int64)), (q1 ^^^ (8387220255154660723 : Int64))) : own_S).1), vS, vL ((((q0 ^^^ (8317987319222330741 : Int64)), (q1 ^^^ (7237128888997146477 : Int64)), (q0 ^^^ (7816392313619706465 : Int64)), (q1 ^^^ (8387220255154660723 : Int64))) : own_S).2.1), vS, vL ((((q0 ^^^ (8317987319222330741 : Int64)), (q1 ^^^ (7237128888997146477 : Int64)), (q0 ^^^ (7816392313619706465 : Int64)), (q1 ^^^ (8387220255154660723 : Int64))) : own_S).2.2.1), vS, vL ((((q0 ^^^ (8317987319222330741 : Int64)), (q1 ^^^ (7237128888997146477 : Int64)), (q0 ^^^ (7816392313619706465 : Int64)), (q1 ^^^ (8387220255154660723 : Int64))) : own_S).2.2.2), vS, vI (u3 - u2), vI ((1 : Int32) + (1 : Int32)), vI (0 : Int32), vU, vU, vU, vU, vU] []))
  generalize ht0 : (((q0 ^^^ (8317987319222330741 : Int64)), (q1 ^^^ (7237128888997146477 : Int64)), (q0 ^^^ (7816392313619706465 : Int64)), (q1 ^^^ (8387220255154660723 : Int64))) : own_S) = t0
  refine own_iload X4 hx (hb hby d9_57) rfl (pc' := 59) rfl ?_
  refine own_iload X4 hx (hb hby d9_59) rfl (pc' := 61) rfl ?_
  refine own_iconst X4 hx (hb hby d9_61) (z := (3 : Int32)) rfl (pc' := 62) rfl ?_
  refine own_iadd X4 hx (hb hby d9_62) (pc' := 63) rfl ?_
  refine own_icmpF X4 hx (hb hby d9_63) (by decide) (pc' := 66) rfl ?_
  refine own_lconst X4 hx (hb hby d9_66) (z := (0 : Int64)) (by decide) (pc' := 67) rfl ?_
  refine own_lstore X4 hx (hb hby d9_67) (l' := #[vR ra, vR rb, vI u2, vI u3, vL t0.1, vS, vL t0.2.1, vS, vL t0.2.2.1, vS, vL t0.2.2.2, vS, vI (u3 - u2), vI ((1 : Int32) + (1 : Int32)), vI (0 : Int32), vL (0 : Int64), vS, vU, vU, vU]) rfl (pc' := 69) rfl ?_
  refine own_iload X4 hx (hb hby d9_69) rfl (pc' := 71) rfl ?_
  refine own_iload X4 hx (hb hby d9_71) rfl (pc' := 73) rfl ?_
  refine own_icmpF X4 hx (hb hby d9_73) (by decide) (pc' := 76) rfl ?_
  refine own_iloadN X4 hx (hb hby d9_76) rfl (pc' := 77) rfl ?_
  refine own_iload X4 hx (hb hby d9_77) rfl (pc' := 79) rfl ?_
  refine own_bipush X4 hx (hb hby d9_79) (z := (8 : Int32)) (by decide) (pc' := 81) rfl ?_
  refine own_imul X4 hx (hb hby d9_81) (pc' := 82) rfl ?_
  refine own_iadd X4 hx (hb hby d9_82) (pc' := 83) rfl ?_
  refine own_istore X4 hx (hb hby d9_83) (l' := #[vR ra, vR rb, vI u2, vI u3, vL t0.1, vS, vL t0.2.1, vS, vL t0.2.2.1, vS, vL t0.2.2.2, vS, vI (u3 - u2), vI ((1 : Int32) + (1 : Int32)), vI (0 : Int32), vL (0 : Int64), vS, vI (u2 + ((0 : Int32) * (8 : Int32))), vU, vU]) rfl (pc' := 85) rfl ?_
  have ho0 := own_offk u2 (0 : Int32) ⟨hs, by omega⟩ (by decide)
  rw [show ((0 : Int32)).toInt = 0 from by decide] at ho0
  have hd0 := own_sub u3 (u2 + ((0 : Int32) * (8 : Int32))) (by omega)
  have hk0 : ¬ ((u3 - (u2 + ((0 : Int32) * (8 : Int32))))) < (8 : Int32) := by simp only [Int32.lt_iff_toInt_lt, Int32.reduceToInt]; omega
  refine own_iloadN X4 hx (hb hby d9_85) rfl (pc' := 86) rfl ?_
  refine own_iload X4 hx (hb hby d9_86) rfl (pc' := 88) rfl ?_
  refine own_isub X4 hx (hb hby d9_88) (pc' := 89) rfl ?_
  refine own_bipush X4 hx (hb hby d9_89) (z := (8 : Int32)) (by decide) (pc' := 91) rfl ?_
  refine own_icmpT X4 hx (hb hby d9_91) (flt hk0).2.1 (by decide) (pc' := 98) rfl ?_
  refine own_iload X4 hx (hb hby d9_98) rfl (pc' := 100) rfl ?_
  refine own_bipush X4 hx (hb hby d9_100) (z := (8 : Int32)) (by decide) (pc' := 102) rfl ?_
  refine own_iadd X4 hx (hb hby d9_102) (pc' := 103) rfl ?_
  refine own_istore X4 hx (hb hby d9_103) (l' := #[vR ra, vR rb, vI u2, vI u3, vL t0.1, vS, vL t0.2.1, vS, vL t0.2.2.1, vS, vL t0.2.2.2, vS, vI (u3 - u2), vI ((1 : Int32) + (1 : Int32)), vI (0 : Int32), vL (0 : Int64), vS, vI (u2 + ((0 : Int32) * (8 : Int32))), vI ((u2 + ((0 : Int32) * (8 : Int32))) + (8 : Int32)), vU]) rfl (pc' := 105) rfl ?_
  refine own_iload X4 hx (hb hby d9_105) rfl (pc' := 107) rfl ?_
  refine own_iconst X4 hx (hb hby d9_107) (z := (1 : Int32)) rfl (pc' := 108) rfl ?_
  refine own_isub X4 hx (hb hby d9_108) (pc' := 109) rfl ?_
  refine own_istore X4 hx (hb hby d9_109) (l' := #[vR ra, vR rb, vI u2, vI u3, vL t0.1, vS, vL t0.2.1, vS, vL t0.2.2.1, vS, vL t0.2.2.2, vS, vI (u3 - u2), vI ((1 : Int32) + (1 : Int32)), vI (0 : Int32), vL (0 : Int64), vS, vI (u2 + ((0 : Int32) * (8 : Int32))), vI ((u2 + ((0 : Int32) * (8 : Int32))) + (8 : Int32)), vI (((u2 + ((0 : Int32) * (8 : Int32))) + (8 : Int32)) - (1 : Int32))]) rfl (pc' := 111) rfl ?_
  have hl0 := own_addk (u2 + ((0 : Int32) * (8 : Int32))) (8 : Int32) (by omega) (by decide)
  simp only [Int32.reduceToInt] at hl0
  have hm0 : (((u2 + ((0 : Int32) * (8 : Int32))) + (8 : Int32))).toInt = ((u2 + ((0 : Int32) * (8 : Int32)))).toInt + (8 : Nat) := by omega
  refine own_inner X4 hx hby hZ e4 ra rb gg P2 u2 u3 (u3 - u2) ((1 : Int32) + (1 : Int32)) (0 : Int32) (u2 + ((0 : Int32) * (8 : Int32))) ((u2 + ((0 : Int32) * (8 : Int32))) + (8 : Int32)) t0.1 t0.2.1 t0.2.2.1 t0.2.2.2 (by omega) 8 (((u2 + ((0 : Int32) * (8 : Int32))) + (8 : Int32)) - (1 : Int32)) 0 (own_j ((u2 + ((0 : Int32) * (8 : Int32))) + (8 : Int32)) (u2 + ((0 : Int32) * (8 : Int32))) 8 hm0 (by omega) (by omega)) (by omega) ?_
  rw [Nat.add_zero, own_Hle gg (u2 + ((0 : Int32) * (8 : Int32))) (8 : Int32) 8 (by omega) rfl]
  refine own_iload X4 hx (hb hby d9_141) rfl (pc' := 143) rfl ?_
  refine own_iload X4 hx (hb hby d9_143) rfl (pc' := 145) rfl ?_
  refine own_iconst X4 hx (hb hby d9_145) (z := (1 : Int32)) rfl (pc' := 146) rfl ?_
  refine own_isub X4 hx (hb hby d9_146) (pc' := 147) rfl ?_
  refine own_icmpT X4 hx (hb hby d9_147) (by decide) (by decide) (pc' := 161) rfl ?_
  refine own_goto X4 hx (hb hby d9_161) (by decide) (pc' := 179) rfl ?_
  generalize hM0 : (own_le8 gg (u2 + ((0 : Int32) * (8 : Int32))) (8 : Int32)) = m0
  generalize ((u2 + ((0 : Int32) * (8 : Int32))) + (-1 : Int32)) = ob0
  generalize ((u2 + ((0 : Int32) * (8 : Int32))) + (8 : Int32)) = oc0
  generalize (u2 + ((0 : Int32) * (8 : Int32))) = oa0
  refine own_lload X4 hx (hb hby d9_179) rfl (pc' := 181) rfl ?_
  refine own_lload X4 hx (hb hby d9_181) rfl (pc' := 183) rfl ?_
  refine own_lxor X4 hx (hb hby d9_183) (pc' := 184) rfl ?_
  refine own_lstore X4 hx (hb hby d9_184) (l' := #[vR ra, vR rb, vI u2, vI u3, vL t0.1, vS, vL t0.2.1, vS, vL t0.2.2.1, vS, vL (t0.2.2.2 ^^^ m0), vS, vI (u3 - u2), vI ((1 : Int32) + (1 : Int32)), vI (0 : Int32), vL m0, vS, vI oa0, vI oc0, vI ob0]) rfl (pc' := 186) rfl ?_
  refine own_lload X4 hx (hb hby d9_186) rfl (pc' := 188) rfl ?_
  refine own_lload X4 hx (hb hby d9_188) rfl (pc' := 190) rfl ?_
  refine own_ladd X4 hx (hb hby d9_190) (pc' := 191) rfl ?_
  refine own_lstore X4 hx (hb hby d9_191) (l' := #[vR ra, vR rb, vI u2, vI u3, vL (t0.1 + t0.2.1), vS, vL t0.2.1, vS, vL t0.2.2.1, vS, vL (t0.2.2.2 ^^^ m0), vS, vI (u3 - u2), vI ((1 : Int32) + (1 : Int32)), vI (0 : Int32), vL m0, vS, vI oa0, vI oc0, vI ob0]) rfl (pc' := 193) rfl ?_
  refine own_lload X4 hx (hb hby d9_193) rfl (pc' := 195) rfl ?_
  refine own_bipush X4 hx (hb hby d9_195) (z := (13 : Int32)) (by decide) (pc' := 197) rfl ?_
  refine own_lshl X4 hx (hb hby d9_197) (pc' := 198) rfl ?_
  refine own_lload X4 hx (hb hby d9_198) rfl (pc' := 200) rfl ?_
  refine own_bipush X4 hx (hb hby d9_200) (z := (51 : Int32)) (by decide) (pc' := 202) rfl ?_
  refine own_lushr X4 hx (hb hby d9_202) (pc' := 203) rfl ?_
  refine own_lor X4 hx (hb hby d9_203) (pc' := 204) rfl ?_
  rw [own_r13]
  refine own_lstore X4 hx (hb hby d9_204) (l' := #[vR ra, vR rb, vI u2, vI u3, vL (t0.1 + t0.2.1), vS, vL (own_rot t0.2.1 (13 : Int32)), vS, vL t0.2.2.1, vS, vL (t0.2.2.2 ^^^ m0), vS, vI (u3 - u2), vI ((1 : Int32) + (1 : Int32)), vI (0 : Int32), vL m0, vS, vI oa0, vI oc0, vI ob0]) rfl (pc' := 206) rfl ?_
  refine own_lload X4 hx (hb hby d9_206) rfl (pc' := 208) rfl ?_
  refine own_lload X4 hx (hb hby d9_208) rfl (pc' := 210) rfl ?_
  refine own_lxor X4 hx (hb hby d9_210) (pc' := 211) rfl ?_
  refine own_lstore X4 hx (hb hby d9_211) (l' := #[vR ra, vR rb, vI u2, vI u3, vL (t0.1 + t0.2.1), vS, vL ((own_rot t0.2.1 (13 : Int32)) ^^^ (t0.1 + t0.2.1)), vS, vL t0.2.2.1, vS, vL (t0.2.2.2 ^^^ m0), vS, vI (u3 - u2), vI ((1 : Int32) + (1 : Int32)), vI (0 : Int32), vL m0, vS, vI oa0, vI oc0, vI ob0]) rfl (pc' := 213) rfl ?_
  refine own_lload X4 hx (hb hby d9_213) rfl (pc' := 215) rfl ?_
  refine own_bipush X4 hx (hb hby d9_215) (z := (32 : Int32)) (by decide) (pc' := 217) rfl ?_
  refine own_lshl X4 hx (hb hby d9_217) (pc' := 218) rfl ?_
  refine own_lload X4 hx (hb hby d9_218) rfl (pc' := 220) rfl ?_
  refine own_bipush X4 hx (hb hby d9_220) (z := (32 : Int32)) (by decide) (pc' := 222) rfl ?_
  refine own_lushr X4 hx (hb hby d9_222) (pc' := 223) rfl ?_
  refine own_lor X4 hx (hb hby d9_223) (pc' := 224) rfl ?_
  rw [own_r32]
  refine own_lstore X4 hx (hb hby d9_224) (l' := #[vR ra, vR rb, vI u2, vI u3, vL (own_rot (t0.1 + t0.2.1) (32 : Int32)), vS, vL ((own_rot t0.2.1 (13 : Int32)) ^^^ (t0.1 + t0.2.1)), vS, vL t0.2.2.1, vS, vL (t0.2.2.2 ^^^ m0), vS, vI (u3 - u2), vI ((1 : Int32) + (1 : Int32)), vI (0 : Int32), vL m0, vS, vI oa0, vI oc0, vI ob0]) rfl (pc' := 226) rfl ?_
  refine own_lload X4 hx (hb hby d9_226) rfl (pc' := 228) rfl ?_
  refine own_lload X4 hx (hb hby d9_228) rfl (pc' := 230) rfl ?_
  refine own_ladd X4 hx (hb hby d9_230) (pc' := 231) rfl ?_
  refine own_lstore X4 hx (hb hby d9_231) (l' := #[vR ra, vR rb, vI u2, vI u3, vL (own_rot (t0.1 + t0.2.1) (32 : Int32)), vS, vL ((own_rot t0.2.1 (13 : Int32)) ^^^ (t0.1 + t0.2.1)), vS, vL (t0.2.2.1 + (t0.2.2.2 ^^^ m0)), vS, vL (t0.2.2.2 ^^^ m0), vS, vI (u3 - u2), vI ((1 : Int32) + (1 : Int32)), vI (0 : Int32), vL m0, vS, vI oa0, vI oc0, vI ob0]) rfl (pc' := 233) rfl ?_
  refine own_lload X4 hx (hb hby d9_233) rfl (pc' := 235) rfl ?_
  refine own_bipush X4 hx (hb hby d9_235) (z := (16 : Int32)) (by decide) (pc' := 237) rfl ?_
  refine own_lshl X4 hx (hb hby d9_237) (pc' := 238) rfl ?_
  refine own_lload X4 hx (hb hby d9_238) rfl (pc' := 240) rfl ?_
  refine own_bipush X4 hx (hb hby d9_240) (z := (48 : Int32)) (by decide) (pc' := 242) rfl ?_
  refine own_lushr X4 hx (hb hby d9_242) (pc' := 243) rfl ?_
  refine own_lor X4 hx (hb hby d9_243) (pc' := 244) rfl ?_
  rw [own_r16]
  refine own_lstore X4 hx (hb hby d9_244) (l' := #[vR ra, vR rb, vI u2, vI u3, vL (own_rot (t0.1 + t0.2.1) (32 : Int32)), vS, vL ((own_rot t0.2.1 (13 : Int32)) ^^^ (t0.1 + t0.2.1)), vS, vL (t0.2.2.1 + (t0.2.2.2 ^^^ m0)), vS, vL (own_rot (t0.2.2.2 ^^^ m0) (16 : Int32)), vS, vI (u3 - u2), vI ((1 : Int32) + (1 : Int32)), vI (0 : Int32), vL m0, vS, vI oa0, vI oc0, vI ob0]) rfl (pc' := 246) rfl ?_
  refine own_lload X4 hx (hb hby d9_246) rfl (pc' := 248) rfl ?_
  refine own_lload X4 hx (hb hby d9_248) rfl (pc' := 250) rfl ?_
  refine own_lxor X4 hx (hb hby d9_250) (pc' := 251) rfl ?_
  refine own_lstore X4 hx (hb hby d9_251) (l' := #[vR ra, vR rb, vI u2, vI u3, vL (own_rot (t0.1 + t0.2.1) (32 : Int32)), vS, vL ((own_rot t0.2.1 (13 : Int32)) ^^^ (t0.1 + t0.2.1)), vS, vL (t0.2.2.1 + (t0.2.2.2 ^^^ m0)), vS, vL ((own_rot (t0.2.2.2 ^^^ m0) (16 : Int32)) ^^^ (t0.2.2.1 + (t0.2.2.2 ^^^ m0))), vS, vI (u3 - u2), vI ((1 : Int32) + (1 : Int32)), vI (0 : Int32), vL m0, vS, vI oa0, vI oc0, vI ob0]) rfl (pc' := 253) rfl ?_
  refine own_lload X4 hx (hb hby d9_253) rfl (pc' := 255) rfl ?_
  refine own_lload X4 hx (hb hby d9_255) rfl (pc' := 257) rfl ?_
  refine own_ladd X4 hx (hb hby d9_257) (pc' := 258) rfl ?_
  refine own_lstore X4 hx (hb hby d9_258) (l' := #[vR ra, vR rb, vI u2, vI u3, vL ((own_rot (t0.1 + t0.2.1) (32 : Int32)) + ((own_rot (t0.2.2.2 ^^^ m0) (16 : Int32)) ^^^ (t0.2.2.1 + (t0.2.2.2 ^^^ m0)))), vS, vL ((own_rot t0.2.1 (13 : Int32)) ^^^ (t0.1 + t0.2.1)), vS, vL (t0.2.2.1 + (t0.2.2.2 ^^^ m0)), vS, vL ((own_rot (t0.2.2.2 ^^^ m0) (16 : Int32)) ^^^ (t0.2.2.1 + (t0.2.2.2 ^^^ m0))), vS, vI (u3 - u2), vI ((1 : Int32) + (1 : Int32)), vI (0 : Int32), vL m0, vS, vI oa0, vI oc0, vI ob0]) rfl (pc' := 260) rfl ?_
  refine own_lload X4 hx (hb hby d9_260) rfl (pc' := 262) rfl ?_
  refine own_bipush X4 hx (hb hby d9_262) (z := (21 : Int32)) (by decide) (pc' := 264) rfl ?_
  refine own_lshl X4 hx (hb hby d9_264) (pc' := 265) rfl ?_
  refine own_lload X4 hx (hb hby d9_265) rfl (pc' := 267) rfl ?_
  refine own_bipush X4 hx (hb hby d9_267) (z := (43 : Int32)) (by decide) (pc' := 269) rfl ?_
  refine own_lushr X4 hx (hb hby d9_269) (pc' := 270) rfl ?_
  refine own_lor X4 hx (hb hby d9_270) (pc' := 271) rfl ?_
  rw [own_r21]
  refine own_lstore X4 hx (hb hby d9_271) (l' := #[vR ra, vR rb, vI u2, vI u3, vL ((own_rot (t0.1 + t0.2.1) (32 : Int32)) + ((own_rot (t0.2.2.2 ^^^ m0) (16 : Int32)) ^^^ (t0.2.2.1 + (t0.2.2.2 ^^^ m0)))), vS, vL ((own_rot t0.2.1 (13 : Int32)) ^^^ (t0.1 + t0.2.1)), vS, vL (t0.2.2.1 + (t0.2.2.2 ^^^ m0)), vS, vL (own_rot ((own_rot (t0.2.2.2 ^^^ m0) (16 : Int32)) ^^^ (t0.2.2.1 + (t0.2.2.2 ^^^ m0))) (21 : Int32)), vS, vI (u3 - u2), vI ((1 : Int32) + (1 : Int32)), vI (0 : Int32), vL m0, vS, vI oa0, vI oc0, vI ob0]) rfl (pc' := 273) rfl ?_
  refine own_lload X4 hx (hb hby d9_273) rfl (pc' := 275) rfl ?_
  refine own_lload X4 hx (hb hby d9_275) rfl (pc' := 277) rfl ?_
  refine own_lxor X4 hx (hb hby d9_277) (pc' := 278) rfl ?_
  refine own_lstore X4 hx (hb hby d9_278) (l' := #[vR ra, vR rb, vI u2, vI u3, vL ((own_rot (t0.1 + t0.2.1) (32 : Int32)) + ((own_rot (t0.2.2.2 ^^^ m0) (16 : Int32)) ^^^ (t0.2.2.1 + (t0.2.2.2 ^^^ m0)))), vS, vL ((own_rot t0.2.1 (13 : Int32)) ^^^ (t0.1 + t0.2.1)), vS, vL (t0.2.2.1 + (t0.2.2.2 ^^^ m0)), vS, vL ((own_rot ((own_rot (t0.2.2.2 ^^^ m0) (16 : Int32)) ^^^ (t0.2.2.1 + (t0.2.2.2 ^^^ m0))) (21 : Int32)) ^^^ ((own_rot (t0.1 + t0.2.1) (32 : Int32)) + ((own_rot (t0.2.2.2 ^^^ m0) (16 : Int32)) ^^^ (t0.2.2.1 + (t0.2.2.2 ^^^ m0))))), vS, vI (u3 - u2), vI ((1 : Int32) + (1 : Int32)), vI (0 : Int32), vL m0, vS, vI oa0, vI oc0, vI ob0]) rfl (pc' := 280) rfl ?_
  refine own_lload X4 hx (hb hby d9_280) rfl (pc' := 282) rfl ?_
  refine own_lload X4 hx (hb hby d9_282) rfl (pc' := 284) rfl ?_
  refine own_ladd X4 hx (hb hby d9_284) (pc' := 285) rfl ?_
  refine own_lstore X4 hx (hb hby d9_285) (l' := #[vR ra, vR rb, vI u2, vI u3, vL ((own_rot (t0.1 + t0.2.1) (32 : Int32)) + ((own_rot (t0.2.2.2 ^^^ m0) (16 : Int32)) ^^^ (t0.2.2.1 + (t0.2.2.2 ^^^ m0)))), vS, vL ((own_rot t0.2.1 (13 : Int32)) ^^^ (t0.1 + t0.2.1)), vS, vL ((t0.2.2.1 + (t0.2.2.2 ^^^ m0)) + ((own_rot t0.2.1 (13 : Int32)) ^^^ (t0.1 + t0.2.1))), vS, vL ((own_rot ((own_rot (t0.2.2.2 ^^^ m0) (16 : Int32)) ^^^ (t0.2.2.1 + (t0.2.2.2 ^^^ m0))) (21 : Int32)) ^^^ ((own_rot (t0.1 + t0.2.1) (32 : Int32)) + ((own_rot (t0.2.2.2 ^^^ m0) (16 : Int32)) ^^^ (t0.2.2.1 + (t0.2.2.2 ^^^ m0))))), vS, vI (u3 - u2), vI ((1 : Int32) + (1 : Int32)), vI (0 : Int32), vL m0, vS, vI oa0, vI oc0, vI ob0]) rfl (pc' := 287) rfl ?_
  refine own_lload X4 hx (hb hby d9_287) rfl (pc' := 289) rfl ?_
  refine own_bipush X4 hx (hb hby d9_289) (z := (17 : Int32)) (by decide) (pc' := 291) rfl ?_
  refine own_lshl X4 hx (hb hby d9_291) (pc' := 292) rfl ?_
  refine own_lload X4 hx (hb hby d9_292) rfl (pc' := 294) rfl ?_
  refine own_bipush X4 hx (hb hby d9_294) (z := (47 : Int32)) (by decide) (pc' := 296) rfl ?_
  refine own_lushr X4 hx (hb hby d9_296) (pc' := 297) rfl ?_
  refine own_lor X4 hx (hb hby d9_297) (pc' := 298) rfl ?_
  rw [own_r17]
  refine own_lstore X4 hx (hb hby d9_298) (l' := #[vR ra, vR rb, vI u2, vI u3, vL ((own_rot (t0.1 + t0.2.1) (32 : Int32)) + ((own_rot (t0.2.2.2 ^^^ m0) (16 : Int32)) ^^^ (t0.2.2.1 + (t0.2.2.2 ^^^ m0)))), vS, vL (own_rot ((own_rot t0.2.1 (13 : Int32)) ^^^ (t0.1 + t0.2.1)) (17 : Int32)), vS, vL ((t0.2.2.1 + (t0.2.2.2 ^^^ m0)) + ((own_rot t0.2.1 (13 : Int32)) ^^^ (t0.1 + t0.2.1))), vS, vL ((own_rot ((own_rot (t0.2.2.2 ^^^ m0) (16 : Int32)) ^^^ (t0.2.2.1 + (t0.2.2.2 ^^^ m0))) (21 : Int32)) ^^^ ((own_rot (t0.1 + t0.2.1) (32 : Int32)) + ((own_rot (t0.2.2.2 ^^^ m0) (16 : Int32)) ^^^ (t0.2.2.1 + (t0.2.2.2 ^^^ m0))))), vS, vI (u3 - u2), vI ((1 : Int32) + (1 : Int32)), vI (0 : Int32), vL m0, vS, vI oa0, vI oc0, vI ob0]) rfl (pc' := 300) rfl ?_
  refine own_lload X4 hx (hb hby d9_300) rfl (pc' := 302) rfl ?_
  refine own_lload X4 hx (hb hby d9_302) rfl (pc' := 304) rfl ?_
  refine own_lxor X4 hx (hb hby d9_304) (pc' := 305) rfl ?_
  refine own_lstore X4 hx (hb hby d9_305) (l' := #[vR ra, vR rb, vI u2, vI u3, vL ((own_rot (t0.1 + t0.2.1) (32 : Int32)) + ((own_rot (t0.2.2.2 ^^^ m0) (16 : Int32)) ^^^ (t0.2.2.1 + (t0.2.2.2 ^^^ m0)))), vS, vL ((own_rot ((own_rot t0.2.1 (13 : Int32)) ^^^ (t0.1 + t0.2.1)) (17 : Int32)) ^^^ ((t0.2.2.1 + (t0.2.2.2 ^^^ m0)) + ((own_rot t0.2.1 (13 : Int32)) ^^^ (t0.1 + t0.2.1)))), vS, vL ((t0.2.2.1 + (t0.2.2.2 ^^^ m0)) + ((own_rot t0.2.1 (13 : Int32)) ^^^ (t0.1 + t0.2.1))), vS, vL ((own_rot ((own_rot (t0.2.2.2 ^^^ m0) (16 : Int32)) ^^^ (t0.2.2.1 + (t0.2.2.2 ^^^ m0))) (21 : Int32)) ^^^ ((own_rot (t0.1 + t0.2.1) (32 : Int32)) + ((own_rot (t0.2.2.2 ^^^ m0) (16 : Int32)) ^^^ (t0.2.2.1 + (t0.2.2.2 ^^^ m0))))), vS, vI (u3 - u2), vI ((1 : Int32) + (1 : Int32)), vI (0 : Int32), vL m0, vS, vI oa0, vI oc0, vI ob0]) rfl (pc' := 307) rfl ?_
  refine own_lload X4 hx (hb hby d9_307) rfl (pc' := 309) rfl ?_
  refine own_bipush X4 hx (hb hby d9_309) (z := (32 : Int32)) (by decide) (pc' := 311) rfl ?_
  refine own_lshl X4 hx (hb hby d9_311) (pc' := 312) rfl ?_
  refine own_lload X4 hx (hb hby d9_312) rfl (pc' := 314) rfl ?_
  refine own_bipush X4 hx (hb hby d9_314) (z := (32 : Int32)) (by decide) (pc' := 316) rfl ?_
  refine own_lushr X4 hx (hb hby d9_316) (pc' := 317) rfl ?_
  refine own_lor X4 hx (hb hby d9_317) (pc' := 318) rfl ?_
  rw [own_r32]
  refine own_lstore X4 hx (hb hby d9_318) (l' := #[vR ra, vR rb, vI u2, vI u3, vL ((own_rot (t0.1 + t0.2.1) (32 : Int32)) + ((own_rot (t0.2.2.2 ^^^ m0) (16 : Int32)) ^^^ (t0.2.2.1 + (t0.2.2.2 ^^^ m0)))), vS, vL ((own_rot ((own_rot t0.2.1 (13 : Int32)) ^^^ (t0.1 + t0.2.1)) (17 : Int32)) ^^^ ((t0.2.2.1 + (t0.2.2.2 ^^^ m0)) + ((own_rot t0.2.1 (13 : Int32)) ^^^ (t0.1 + t0.2.1)))), vS, vL (own_rot ((t0.2.2.1 + (t0.2.2.2 ^^^ m0)) + ((own_rot t0.2.1 (13 : Int32)) ^^^ (t0.1 + t0.2.1))) (32 : Int32)), vS, vL ((own_rot ((own_rot (t0.2.2.2 ^^^ m0) (16 : Int32)) ^^^ (t0.2.2.1 + (t0.2.2.2 ^^^ m0))) (21 : Int32)) ^^^ ((own_rot (t0.1 + t0.2.1) (32 : Int32)) + ((own_rot (t0.2.2.2 ^^^ m0) (16 : Int32)) ^^^ (t0.2.2.1 + (t0.2.2.2 ^^^ m0))))), vS, vI (u3 - u2), vI ((1 : Int32) + (1 : Int32)), vI (0 : Int32), vL m0, vS, vI oa0, vI oc0, vI ob0]) rfl (pc' := 320) rfl ?_
  refine own_lload X4 hx (hb hby d9_320) rfl (pc' := 322) rfl ?_
  refine own_lload X4 hx (hb hby d9_322) rfl (pc' := 324) rfl ?_
  refine own_lxor X4 hx (hb hby d9_324) (pc' := 325) rfl ?_
  refine own_lstore X4 hx (hb hby d9_325) (l' := #[vR ra, vR rb, vI u2, vI u3, vL (((own_rot (t0.1 + t0.2.1) (32 : Int32)) + ((own_rot (t0.2.2.2 ^^^ m0) (16 : Int32)) ^^^ (t0.2.2.1 + (t0.2.2.2 ^^^ m0)))) ^^^ m0), vS, vL ((own_rot ((own_rot t0.2.1 (13 : Int32)) ^^^ (t0.1 + t0.2.1)) (17 : Int32)) ^^^ ((t0.2.2.1 + (t0.2.2.2 ^^^ m0)) + ((own_rot t0.2.1 (13 : Int32)) ^^^ (t0.1 + t0.2.1)))), vS, vL (own_rot ((t0.2.2.1 + (t0.2.2.2 ^^^ m0)) + ((own_rot t0.2.1 (13 : Int32)) ^^^ (t0.1 + t0.2.1))) (32 : Int32)), vS, vL ((own_rot ((own_rot (t0.2.2.2 ^^^ m0) (16 : Int32)) ^^^ (t0.2.2.1 + (t0.2.2.2 ^^^ m0))) (21 : Int32)) ^^^ ((own_rot (t0.1 + t0.2.1) (32 : Int32)) + ((own_rot (t0.2.2.2 ^^^ m0) (16 : Int32)) ^^^ (t0.2.2.1 + (t0.2.2.2 ^^^ m0))))), vS, vI (u3 - u2), vI ((1 : Int32) + (1 : Int32)), vI (0 : Int32), vL m0, vS, vI oa0, vI oc0, vI ob0]) rfl (pc' := 327) rfl ?_
  refine own_iinc X4 hx (hb hby d9_327) rfl (z := (1 : Int32)) rfl (l' := #[vR ra, vR rb, vI u2, vI u3, vL (((own_rot (t0.1 + t0.2.1) (32 : Int32)) + ((own_rot (t0.2.2.2 ^^^ m0) (16 : Int32)) ^^^ (t0.2.2.1 + (t0.2.2.2 ^^^ m0)))) ^^^ m0), vS, vL ((own_rot ((own_rot t0.2.1 (13 : Int32)) ^^^ (t0.1 + t0.2.1)) (17 : Int32)) ^^^ ((t0.2.2.1 + (t0.2.2.2 ^^^ m0)) + ((own_rot t0.2.1 (13 : Int32)) ^^^ (t0.1 + t0.2.1)))), vS, vL (own_rot ((t0.2.2.1 + (t0.2.2.2 ^^^ m0)) + ((own_rot t0.2.1 (13 : Int32)) ^^^ (t0.1 + t0.2.1))) (32 : Int32)), vS, vL ((own_rot ((own_rot (t0.2.2.2 ^^^ m0) (16 : Int32)) ^^^ (t0.2.2.1 + (t0.2.2.2 ^^^ m0))) (21 : Int32)) ^^^ ((own_rot (t0.1 + t0.2.1) (32 : Int32)) + ((own_rot (t0.2.2.2 ^^^ m0) (16 : Int32)) ^^^ (t0.2.2.1 + (t0.2.2.2 ^^^ m0))))), vS, vI (u3 - u2), vI ((1 : Int32) + (1 : Int32)), vI ((0 : Int32) + (1 : Int32)), vL m0, vS, vI oa0, vI oc0, vI ob0]) rfl (pc' := 330) rfl ?_
  refine own_goto X4 hx (hb hby d9_330) (by decide) (pc' := 57) rfl ?_
  show own_G p e below s _ _ _ (T4.setTop (mkF m 57 #[vR ra, vR rb, vI u2, vI u3, vL ((own_comp m0 t0).1), vS, vL ((own_comp m0 t0).2.1), vS, vL ((own_comp m0 t0).2.2.1), vS, vL ((own_comp m0 t0).2.2.2), vS, vI (u3 - u2), vI ((1 : Int32) + (1 : Int32)), vI (1 : Int32), vL m0, vS, vI oa0, vI oc0, vI ob0] []))
  generalize ht1 : (own_comp m0 t0) = t1
  refine own_iload X4 hx (hb hby d9_57) rfl (pc' := 59) rfl ?_
  refine own_iload X4 hx (hb hby d9_59) rfl (pc' := 61) rfl ?_
  refine own_iconst X4 hx (hb hby d9_61) (z := (3 : Int32)) rfl (pc' := 62) rfl ?_
  refine own_iadd X4 hx (hb hby d9_62) (pc' := 63) rfl ?_
  refine own_icmpF X4 hx (hb hby d9_63) (by decide) (pc' := 66) rfl ?_
  refine own_lconst X4 hx (hb hby d9_66) (z := (0 : Int64)) (by decide) (pc' := 67) rfl ?_
  refine own_lstore X4 hx (hb hby d9_67) (l' := #[vR ra, vR rb, vI u2, vI u3, vL t1.1, vS, vL t1.2.1, vS, vL t1.2.2.1, vS, vL t1.2.2.2, vS, vI (u3 - u2), vI ((1 : Int32) + (1 : Int32)), vI (1 : Int32), vL (0 : Int64), vS, vI oa0, vI oc0, vI ob0]) rfl (pc' := 69) rfl ?_
  refine own_iload X4 hx (hb hby d9_69) rfl (pc' := 71) rfl ?_
  refine own_iload X4 hx (hb hby d9_71) rfl (pc' := 73) rfl ?_
  refine own_icmpF X4 hx (hb hby d9_73) (by decide) (pc' := 76) rfl ?_
  refine own_iloadN X4 hx (hb hby d9_76) rfl (pc' := 77) rfl ?_
  refine own_iload X4 hx (hb hby d9_77) rfl (pc' := 79) rfl ?_
  refine own_bipush X4 hx (hb hby d9_79) (z := (8 : Int32)) (by decide) (pc' := 81) rfl ?_
  refine own_imul X4 hx (hb hby d9_81) (pc' := 82) rfl ?_
  refine own_iadd X4 hx (hb hby d9_82) (pc' := 83) rfl ?_
  refine own_istore X4 hx (hb hby d9_83) (l' := #[vR ra, vR rb, vI u2, vI u3, vL t1.1, vS, vL t1.2.1, vS, vL t1.2.2.1, vS, vL t1.2.2.2, vS, vI (u3 - u2), vI ((1 : Int32) + (1 : Int32)), vI (1 : Int32), vL (0 : Int64), vS, vI (u2 + ((1 : Int32) * (8 : Int32))), vI oc0, vI ob0]) rfl (pc' := 85) rfl ?_
  have ho1 := own_offk u2 (1 : Int32) ⟨hs, by omega⟩ (by decide)
  rw [show ((1 : Int32)).toInt = 1 from by decide] at ho1
  have hd1 := own_sub u3 (u2 + ((1 : Int32) * (8 : Int32))) (by omega)
  have hk1 : (u3 - (u2 + ((1 : Int32) * (8 : Int32)))) < (8 : Int32) := by simp only [Int32.lt_iff_toInt_lt, Int32.reduceToInt]; omega
  refine own_iloadN X4 hx (hb hby d9_85) rfl (pc' := 86) rfl ?_
  refine own_iload X4 hx (hb hby d9_86) rfl (pc' := 88) rfl ?_
  refine own_isub X4 hx (hb hby d9_88) (pc' := 89) rfl ?_
  refine own_bipush X4 hx (hb hby d9_89) (z := (8 : Int32)) (by decide) (pc' := 91) rfl ?_
  refine own_icmpF X4 hx (hb hby d9_91) (tlt hk1).2.1 (pc' := 94) rfl ?_
  refine own_iloadN X4 hx (hb hby d9_94) rfl (pc' := 95) rfl ?_
  refine own_goto X4 hx (hb hby d9_95) (by decide) (pc' := 103) rfl ?_
  refine own_istore X4 hx (hb hby d9_103) (l' := #[vR ra, vR rb, vI u2, vI u3, vL t1.1, vS, vL t1.2.1, vS, vL t1.2.2.1, vS, vL t1.2.2.2, vS, vI (u3 - u2), vI ((1 : Int32) + (1 : Int32)), vI (1 : Int32), vL (0 : Int64), vS, vI (u2 + ((1 : Int32) * (8 : Int32))), vI u3, vI ob0]) rfl (pc' := 105) rfl ?_
  refine own_iload X4 hx (hb hby d9_105) rfl (pc' := 107) rfl ?_
  refine own_iconst X4 hx (hb hby d9_107) (z := (1 : Int32)) rfl (pc' := 108) rfl ?_
  refine own_isub X4 hx (hb hby d9_108) (pc' := 109) rfl ?_
  refine own_istore X4 hx (hb hby d9_109) (l' := #[vR ra, vR rb, vI u2, vI u3, vL t1.1, vS, vL t1.2.1, vS, vL t1.2.2.1, vS, vL t1.2.2.2, vS, vI (u3 - u2), vI ((1 : Int32) + (1 : Int32)), vI (1 : Int32), vL (0 : Int64), vS, vI (u2 + ((1 : Int32) * (8 : Int32))), vI u3, vI (u3 - (1 : Int32))]) rfl (pc' := 111) rfl ?_
  have hm1 : (u3).toInt = ((u2 + ((1 : Int32) * (8 : Int32)))).toInt + ((u3.toInt - ((u2 + ((1 : Int32) * (8 : Int32)))).toInt).toNat : Nat) := by omega
  refine own_inner X4 hx hby hZ e4 ra rb gg P2 u2 u3 (u3 - u2) ((1 : Int32) + (1 : Int32)) (1 : Int32) (u2 + ((1 : Int32) * (8 : Int32))) u3 t1.1 t1.2.1 t1.2.2.1 t1.2.2.2 (by omega) (u3.toInt - ((u2 + ((1 : Int32) * (8 : Int32)))).toInt).toNat (u3 - (1 : Int32)) 0 (own_j u3 (u2 + ((1 : Int32) * (8 : Int32))) (u3.toInt - ((u2 + ((1 : Int32) * (8 : Int32)))).toInt).toNat hm1 (by omega) (by omega)) (by omega) ?_
  rw [Nat.add_zero, own_Hle gg (u2 + ((1 : Int32) * (8 : Int32))) (u3 - (u2 + ((1 : Int32) * (8 : Int32)))) (u3.toInt - ((u2 + ((1 : Int32) * (8 : Int32)))).toInt).toNat (by omega) (by omega)]
  refine own_iload X4 hx (hb hby d9_141) rfl (pc' := 143) rfl ?_
  refine own_iload X4 hx (hb hby d9_143) rfl (pc' := 145) rfl ?_
  refine own_iconst X4 hx (hb hby d9_145) (z := (1 : Int32)) rfl (pc' := 146) rfl ?_
  refine own_isub X4 hx (hb hby d9_146) (pc' := 147) rfl ?_
  refine own_icmpF X4 hx (hb hby d9_147) (by decide) (pc' := 150) rfl ?_
  refine own_lload X4 hx (hb hby d9_150) rfl (pc' := 152) rfl ?_
  refine own_iload X4 hx (hb hby d9_152) rfl (pc' := 154) rfl ?_
  refine own_i2l X4 hx (hb hby d9_154) (pc' := 155) rfl ?_
  refine own_bipush X4 hx (hb hby d9_155) (z := (56 : Int32)) (by decide) (pc' := 157) rfl ?_
  refine own_lshl X4 hx (hb hby d9_157) (pc' := 158) rfl ?_
  refine own_lor X4 hx (hb hby d9_158) (pc' := 159) rfl ?_
  refine own_lstore X4 hx (hb hby d9_159) (l' := #[vR ra, vR rb, vI u2, vI u3, vL t1.1, vS, vL t1.2.1, vS, vL t1.2.2.1, vS, vL t1.2.2.2, vS, vI (u3 - u2), vI ((1 : Int32) + (1 : Int32)), vI (1 : Int32), vL ((own_le8 gg (u2 + ((1 : Int32) * (8 : Int32))) (u3 - (u2 + ((1 : Int32) * (8 : Int32))))) ||| (((u3 - u2).toInt64) <<< ((56 : Int32) &&& 0x3f).toInt64)), vS, vI (u2 + ((1 : Int32) * (8 : Int32))), vI u3, vI ((u2 + ((1 : Int32) * (8 : Int32))) + (-1 : Int32))]) rfl (pc' := 161) rfl ?_
  refine own_goto X4 hx (hb hby d9_161) (by decide) (pc' := 179) rfl ?_
  generalize hM1 : ((own_le8 gg (u2 + ((1 : Int32) * (8 : Int32))) (u3 - (u2 + ((1 : Int32) * (8 : Int32))))) ||| (((u3 - u2).toInt64) <<< ((56 : Int32) &&& 0x3f).toInt64)) = m1
  generalize ((u2 + ((1 : Int32) * (8 : Int32))) + (-1 : Int32)) = ob1
  generalize (u2 + ((1 : Int32) * (8 : Int32))) = oa1
  refine own_lload X4 hx (hb hby d9_179) rfl (pc' := 181) rfl ?_
  refine own_lload X4 hx (hb hby d9_181) rfl (pc' := 183) rfl ?_
  refine own_lxor X4 hx (hb hby d9_183) (pc' := 184) rfl ?_
  refine own_lstore X4 hx (hb hby d9_184) (l' := #[vR ra, vR rb, vI u2, vI u3, vL t1.1, vS, vL t1.2.1, vS, vL t1.2.2.1, vS, vL (t1.2.2.2 ^^^ m1), vS, vI (u3 - u2), vI ((1 : Int32) + (1 : Int32)), vI (1 : Int32), vL m1, vS, vI oa1, vI u3, vI ob1]) rfl (pc' := 186) rfl ?_
  refine own_lload X4 hx (hb hby d9_186) rfl (pc' := 188) rfl ?_
  refine own_lload X4 hx (hb hby d9_188) rfl (pc' := 190) rfl ?_
  refine own_ladd X4 hx (hb hby d9_190) (pc' := 191) rfl ?_
  refine own_lstore X4 hx (hb hby d9_191) (l' := #[vR ra, vR rb, vI u2, vI u3, vL (t1.1 + t1.2.1), vS, vL t1.2.1, vS, vL t1.2.2.1, vS, vL (t1.2.2.2 ^^^ m1), vS, vI (u3 - u2), vI ((1 : Int32) + (1 : Int32)), vI (1 : Int32), vL m1, vS, vI oa1, vI u3, vI ob1]) rfl (pc' := 193) rfl ?_
  refine own_lload X4 hx (hb hby d9_193) rfl (pc' := 195) rfl ?_
  refine own_bipush X4 hx (hb hby d9_195) (z := (13 : Int32)) (by decide) (pc' := 197) rfl ?_
  refine own_lshl X4 hx (hb hby d9_197) (pc' := 198) rfl ?_
  refine own_lload X4 hx (hb hby d9_198) rfl (pc' := 200) rfl ?_
  refine own_bipush X4 hx (hb hby d9_200) (z := (51 : Int32)) (by decide) (pc' := 202) rfl ?_
  refine own_lushr X4 hx (hb hby d9_202) (pc' := 203) rfl ?_
  refine own_lor X4 hx (hb hby d9_203) (pc' := 204) rfl ?_
  rw [own_r13]
  refine own_lstore X4 hx (hb hby d9_204) (l' := #[vR ra, vR rb, vI u2, vI u3, vL (t1.1 + t1.2.1), vS, vL (own_rot t1.2.1 (13 : Int32)), vS, vL t1.2.2.1, vS, vL (t1.2.2.2 ^^^ m1), vS, vI (u3 - u2), vI ((1 : Int32) + (1 : Int32)), vI (1 : Int32), vL m1, vS, vI oa1, vI u3, vI ob1]) rfl (pc' := 206) rfl ?_
  refine own_lload X4 hx (hb hby d9_206) rfl (pc' := 208) rfl ?_
  refine own_lload X4 hx (hb hby d9_208) rfl (pc' := 210) rfl ?_
  refine own_lxor X4 hx (hb hby d9_210) (pc' := 211) rfl ?_
  refine own_lstore X4 hx (hb hby d9_211) (l' := #[vR ra, vR rb, vI u2, vI u3, vL (t1.1 + t1.2.1), vS, vL ((own_rot t1.2.1 (13 : Int32)) ^^^ (t1.1 + t1.2.1)), vS, vL t1.2.2.1, vS, vL (t1.2.2.2 ^^^ m1), vS, vI (u3 - u2), vI ((1 : Int32) + (1 : Int32)), vI (1 : Int32), vL m1, vS, vI oa1, vI u3, vI ob1]) rfl (pc' := 213) rfl ?_
  refine own_lload X4 hx (hb hby d9_213) rfl (pc' := 215) rfl ?_
  refine own_bipush X4 hx (hb hby d9_215) (z := (32 : Int32)) (by decide) (pc' := 217) rfl ?_
  refine own_lshl X4 hx (hb hby d9_217) (pc' := 218) rfl ?_
  refine own_lload X4 hx (hb hby d9_218) rfl (pc' := 220) rfl ?_
  refine own_bipush X4 hx (hb hby d9_220) (z := (32 : Int32)) (by decide) (pc' := 222) rfl ?_
  refine own_lushr X4 hx (hb hby d9_222) (pc' := 223) rfl ?_
  refine own_lor X4 hx (hb hby d9_223) (pc' := 224) rfl ?_
  rw [own_r32]
  refine own_lstore X4 hx (hb hby d9_224) (l' := #[vR ra, vR rb, vI u2, vI u3, vL (own_rot (t1.1 + t1.2.1) (32 : Int32)), vS, vL ((own_rot t1.2.1 (13 : Int32)) ^^^ (t1.1 + t1.2.1)), vS, vL t1.2.2.1, vS, vL (t1.2.2.2 ^^^ m1), vS, vI (u3 - u2), vI ((1 : Int32) + (1 : Int32)), vI (1 : Int32), vL m1, vS, vI oa1, vI u3, vI ob1]) rfl (pc' := 226) rfl ?_
  refine own_lload X4 hx (hb hby d9_226) rfl (pc' := 228) rfl ?_
  refine own_lload X4 hx (hb hby d9_228) rfl (pc' := 230) rfl ?_
  refine own_ladd X4 hx (hb hby d9_230) (pc' := 231) rfl ?_
  refine own_lstore X4 hx (hb hby d9_231) (l' := #[vR ra, vR rb, vI u2, vI u3, vL (own_rot (t1.1 + t1.2.1) (32 : Int32)), vS, vL ((own_rot t1.2.1 (13 : Int32)) ^^^ (t1.1 + t1.2.1)), vS, vL (t1.2.2.1 + (t1.2.2.2 ^^^ m1)), vS, vL (t1.2.2.2 ^^^ m1), vS, vI (u3 - u2), vI ((1 : Int32) + (1 : Int32)), vI (1 : Int32), vL m1, vS, vI oa1, vI u3, vI ob1]) rfl (pc' := 233) rfl ?_
  refine own_lload X4 hx (hb hby d9_233) rfl (pc' := 235) rfl ?_
  refine own_bipush X4 hx (hb hby d9_235) (z := (16 : Int32)) (by decide) (pc' := 237) rfl ?_
  refine own_lshl X4 hx (hb hby d9_237) (pc' := 238) rfl ?_
  refine own_lload X4 hx (hb hby d9_238) rfl (pc' := 240) rfl ?_
  refine own_bipush X4 hx (hb hby d9_240) (z := (48 : Int32)) (by decide) (pc' := 242) rfl ?_
  refine own_lushr X4 hx (hb hby d9_242) (pc' := 243) rfl ?_
  refine own_lor X4 hx (hb hby d9_243) (pc' := 244) rfl ?_
  rw [own_r16]
  refine own_lstore X4 hx (hb hby d9_244) (l' := #[vR ra, vR rb, vI u2, vI u3, vL (own_rot (t1.1 + t1.2.1) (32 : Int32)), vS, vL ((own_rot t1.2.1 (13 : Int32)) ^^^ (t1.1 + t1.2.1)), vS, vL (t1.2.2.1 + (t1.2.2.2 ^^^ m1)), vS, vL (own_rot (t1.2.2.2 ^^^ m1) (16 : Int32)), vS, vI (u3 - u2), vI ((1 : Int32) + (1 : Int32)), vI (1 : Int32), vL m1, vS, vI oa1, vI u3, vI ob1]) rfl (pc' := 246) rfl ?_
  refine own_lload X4 hx (hb hby d9_246) rfl (pc' := 248) rfl ?_
  refine own_lload X4 hx (hb hby d9_248) rfl (pc' := 250) rfl ?_
  refine own_lxor X4 hx (hb hby d9_250) (pc' := 251) rfl ?_
  refine own_lstore X4 hx (hb hby d9_251) (l' := #[vR ra, vR rb, vI u2, vI u3, vL (own_rot (t1.1 + t1.2.1) (32 : Int32)), vS, vL ((own_rot t1.2.1 (13 : Int32)) ^^^ (t1.1 + t1.2.1)), vS, vL (t1.2.2.1 + (t1.2.2.2 ^^^ m1)), vS, vL ((own_rot (t1.2.2.2 ^^^ m1) (16 : Int32)) ^^^ (t1.2.2.1 + (t1.2.2.2 ^^^ m1))), vS, vI (u3 - u2), vI ((1 : Int32) + (1 : Int32)), vI (1 : Int32), vL m1, vS, vI oa1, vI u3, vI ob1]) rfl (pc' := 253) rfl ?_
  refine own_lload X4 hx (hb hby d9_253) rfl (pc' := 255) rfl ?_
  refine own_lload X4 hx (hb hby d9_255) rfl (pc' := 257) rfl ?_
  refine own_ladd X4 hx (hb hby d9_257) (pc' := 258) rfl ?_
  refine own_lstore X4 hx (hb hby d9_258) (l' := #[vR ra, vR rb, vI u2, vI u3, vL ((own_rot (t1.1 + t1.2.1) (32 : Int32)) + ((own_rot (t1.2.2.2 ^^^ m1) (16 : Int32)) ^^^ (t1.2.2.1 + (t1.2.2.2 ^^^ m1)))), vS, vL ((own_rot t1.2.1 (13 : Int32)) ^^^ (t1.1 + t1.2.1)), vS, vL (t1.2.2.1 + (t1.2.2.2 ^^^ m1)), vS, vL ((own_rot (t1.2.2.2 ^^^ m1) (16 : Int32)) ^^^ (t1.2.2.1 + (t1.2.2.2 ^^^ m1))), vS, vI (u3 - u2), vI ((1 : Int32) + (1 : Int32)), vI (1 : Int32), vL m1, vS, vI oa1, vI u3, vI ob1]) rfl (pc' := 260) rfl ?_
  refine own_lload X4 hx (hb hby d9_260) rfl (pc' := 262) rfl ?_
  refine own_bipush X4 hx (hb hby d9_262) (z := (21 : Int32)) (by decide) (pc' := 264) rfl ?_
  refine own_lshl X4 hx (hb hby d9_264) (pc' := 265) rfl ?_
  refine own_lload X4 hx (hb hby d9_265) rfl (pc' := 267) rfl ?_
  refine own_bipush X4 hx (hb hby d9_267) (z := (43 : Int32)) (by decide) (pc' := 269) rfl ?_
  refine own_lushr X4 hx (hb hby d9_269) (pc' := 270) rfl ?_
  refine own_lor X4 hx (hb hby d9_270) (pc' := 271) rfl ?_
  rw [own_r21]
  refine own_lstore X4 hx (hb hby d9_271) (l' := #[vR ra, vR rb, vI u2, vI u3, vL ((own_rot (t1.1 + t1.2.1) (32 : Int32)) + ((own_rot (t1.2.2.2 ^^^ m1) (16 : Int32)) ^^^ (t1.2.2.1 + (t1.2.2.2 ^^^ m1)))), vS, vL ((own_rot t1.2.1 (13 : Int32)) ^^^ (t1.1 + t1.2.1)), vS, vL (t1.2.2.1 + (t1.2.2.2 ^^^ m1)), vS, vL (own_rot ((own_rot (t1.2.2.2 ^^^ m1) (16 : Int32)) ^^^ (t1.2.2.1 + (t1.2.2.2 ^^^ m1))) (21 : Int32)), vS, vI (u3 - u2), vI ((1 : Int32) + (1 : Int32)), vI (1 : Int32), vL m1, vS, vI oa1, vI u3, vI ob1]) rfl (pc' := 273) rfl ?_
  refine own_lload X4 hx (hb hby d9_273) rfl (pc' := 275) rfl ?_
  refine own_lload X4 hx (hb hby d9_275) rfl (pc' := 277) rfl ?_
  refine own_lxor X4 hx (hb hby d9_277) (pc' := 278) rfl ?_
  refine own_lstore X4 hx (hb hby d9_278) (l' := #[vR ra, vR rb, vI u2, vI u3, vL ((own_rot (t1.1 + t1.2.1) (32 : Int32)) + ((own_rot (t1.2.2.2 ^^^ m1) (16 : Int32)) ^^^ (t1.2.2.1 + (t1.2.2.2 ^^^ m1)))), vS, vL ((own_rot t1.2.1 (13 : Int32)) ^^^ (t1.1 + t1.2.1)), vS, vL (t1.2.2.1 + (t1.2.2.2 ^^^ m1)), vS, vL ((own_rot ((own_rot (t1.2.2.2 ^^^ m1) (16 : Int32)) ^^^ (t1.2.2.1 + (t1.2.2.2 ^^^ m1))) (21 : Int32)) ^^^ ((own_rot (t1.1 + t1.2.1) (32 : Int32)) + ((own_rot (t1.2.2.2 ^^^ m1) (16 : Int32)) ^^^ (t1.2.2.1 + (t1.2.2.2 ^^^ m1))))), vS, vI (u3 - u2), vI ((1 : Int32) + (1 : Int32)), vI (1 : Int32), vL m1, vS, vI oa1, vI u3, vI ob1]) rfl (pc' := 280) rfl ?_
  refine own_lload X4 hx (hb hby d9_280) rfl (pc' := 282) rfl ?_
  refine own_lload X4 hx (hb hby d9_282) rfl (pc' := 284) rfl ?_
  refine own_ladd X4 hx (hb hby d9_284) (pc' := 285) rfl ?_
  refine own_lstore X4 hx (hb hby d9_285) (l' := #[vR ra, vR rb, vI u2, vI u3, vL ((own_rot (t1.1 + t1.2.1) (32 : Int32)) + ((own_rot (t1.2.2.2 ^^^ m1) (16 : Int32)) ^^^ (t1.2.2.1 + (t1.2.2.2 ^^^ m1)))), vS, vL ((own_rot t1.2.1 (13 : Int32)) ^^^ (t1.1 + t1.2.1)), vS, vL ((t1.2.2.1 + (t1.2.2.2 ^^^ m1)) + ((own_rot t1.2.1 (13 : Int32)) ^^^ (t1.1 + t1.2.1))), vS, vL ((own_rot ((own_rot (t1.2.2.2 ^^^ m1) (16 : Int32)) ^^^ (t1.2.2.1 + (t1.2.2.2 ^^^ m1))) (21 : Int32)) ^^^ ((own_rot (t1.1 + t1.2.1) (32 : Int32)) + ((own_rot (t1.2.2.2 ^^^ m1) (16 : Int32)) ^^^ (t1.2.2.1 + (t1.2.2.2 ^^^ m1))))), vS, vI (u3 - u2), vI ((1 : Int32) + (1 : Int32)), vI (1 : Int32), vL m1, vS, vI oa1, vI u3, vI ob1]) rfl (pc' := 287) rfl ?_
  refine own_lload X4 hx (hb hby d9_287) rfl (pc' := 289) rfl ?_
  refine own_bipush X4 hx (hb hby d9_289) (z := (17 : Int32)) (by decide) (pc' := 291) rfl ?_
  refine own_lshl X4 hx (hb hby d9_291) (pc' := 292) rfl ?_
  refine own_lload X4 hx (hb hby d9_292) rfl (pc' := 294) rfl ?_
  refine own_bipush X4 hx (hb hby d9_294) (z := (47 : Int32)) (by decide) (pc' := 296) rfl ?_
  refine own_lushr X4 hx (hb hby d9_296) (pc' := 297) rfl ?_
  refine own_lor X4 hx (hb hby d9_297) (pc' := 298) rfl ?_
  rw [own_r17]
  refine own_lstore X4 hx (hb hby d9_298) (l' := #[vR ra, vR rb, vI u2, vI u3, vL ((own_rot (t1.1 + t1.2.1) (32 : Int32)) + ((own_rot (t1.2.2.2 ^^^ m1) (16 : Int32)) ^^^ (t1.2.2.1 + (t1.2.2.2 ^^^ m1)))), vS, vL (own_rot ((own_rot t1.2.1 (13 : Int32)) ^^^ (t1.1 + t1.2.1)) (17 : Int32)), vS, vL ((t1.2.2.1 + (t1.2.2.2 ^^^ m1)) + ((own_rot t1.2.1 (13 : Int32)) ^^^ (t1.1 + t1.2.1))), vS, vL ((own_rot ((own_rot (t1.2.2.2 ^^^ m1) (16 : Int32)) ^^^ (t1.2.2.1 + (t1.2.2.2 ^^^ m1))) (21 : Int32)) ^^^ ((own_rot (t1.1 + t1.2.1) (32 : Int32)) + ((own_rot (t1.2.2.2 ^^^ m1) (16 : Int32)) ^^^ (t1.2.2.1 + (t1.2.2.2 ^^^ m1))))), vS, vI (u3 - u2), vI ((1 : Int32) + (1 : Int32)), vI (1 : Int32), vL m1, vS, vI oa1, vI u3, vI ob1]) rfl (pc' := 300) rfl ?_
  refine own_lload X4 hx (hb hby d9_300) rfl (pc' := 302) rfl ?_
  refine own_lload X4 hx (hb hby d9_302) rfl (pc' := 304) rfl ?_
  refine own_lxor X4 hx (hb hby d9_304) (pc' := 305) rfl ?_
  refine own_lstore X4 hx (hb hby d9_305) (l' := #[vR ra, vR rb, vI u2, vI u3, vL ((own_rot (t1.1 + t1.2.1) (32 : Int32)) + ((own_rot (t1.2.2.2 ^^^ m1) (16 : Int32)) ^^^ (t1.2.2.1 + (t1.2.2.2 ^^^ m1)))), vS, vL ((own_rot ((own_rot t1.2.1 (13 : Int32)) ^^^ (t1.1 + t1.2.1)) (17 : Int32)) ^^^ ((t1.2.2.1 + (t1.2.2.2 ^^^ m1)) + ((own_rot t1.2.1 (13 : Int32)) ^^^ (t1.1 + t1.2.1)))), vS, vL ((t1.2.2.1 + (t1.2.2.2 ^^^ m1)) + ((own_rot t1.2.1 (13 : Int32)) ^^^ (t1.1 + t1.2.1))), vS, vL ((own_rot ((own_rot (t1.2.2.2 ^^^ m1) (16 : Int32)) ^^^ (t1.2.2.1 + (t1.2.2.2 ^^^ m1))) (21 : Int32)) ^^^ ((own_rot (t1.1 + t1.2.1) (32 : Int32)) + ((own_rot (t1.2.2.2 ^^^ m1) (16 : Int32)) ^^^ (t1.2.2.1 + (t1.2.2.2 ^^^ m1))))), vS, vI (u3 - u2), vI ((1 : Int32) + (1 : Int32)), vI (1 : Int32), vL m1, vS, vI oa1, vI u3, vI ob1]) rfl (pc' := 307) rfl ?_
  refine own_lload X4 hx (hb hby d9_307) rfl (pc' := 309) rfl ?_
  refine own_bipush X4 hx (hb hby d9_309) (z := (32 : Int32)) (by decide) (pc' := 311) rfl ?_
  refine own_lshl X4 hx (hb hby d9_311) (pc' := 312) rfl ?_
  refine own_lload X4 hx (hb hby d9_312) rfl (pc' := 314) rfl ?_
  refine own_bipush X4 hx (hb hby d9_314) (z := (32 : Int32)) (by decide) (pc' := 316) rfl ?_
  refine own_lushr X4 hx (hb hby d9_316) (pc' := 317) rfl ?_
  refine own_lor X4 hx (hb hby d9_317) (pc' := 318) rfl ?_
  rw [own_r32]
  refine own_lstore X4 hx (hb hby d9_318) (l' := #[vR ra, vR rb, vI u2, vI u3, vL ((own_rot (t1.1 + t1.2.1) (32 : Int32)) + ((own_rot (t1.2.2.2 ^^^ m1) (16 : Int32)) ^^^ (t1.2.2.1 + (t1.2.2.2 ^^^ m1)))), vS, vL ((own_rot ((own_rot t1.2.1 (13 : Int32)) ^^^ (t1.1 + t1.2.1)) (17 : Int32)) ^^^ ((t1.2.2.1 + (t1.2.2.2 ^^^ m1)) + ((own_rot t1.2.1 (13 : Int32)) ^^^ (t1.1 + t1.2.1)))), vS, vL (own_rot ((t1.2.2.1 + (t1.2.2.2 ^^^ m1)) + ((own_rot t1.2.1 (13 : Int32)) ^^^ (t1.1 + t1.2.1))) (32 : Int32)), vS, vL ((own_rot ((own_rot (t1.2.2.2 ^^^ m1) (16 : Int32)) ^^^ (t1.2.2.1 + (t1.2.2.2 ^^^ m1))) (21 : Int32)) ^^^ ((own_rot (t1.1 + t1.2.1) (32 : Int32)) + ((own_rot (t1.2.2.2 ^^^ m1) (16 : Int32)) ^^^ (t1.2.2.1 + (t1.2.2.2 ^^^ m1))))), vS, vI (u3 - u2), vI ((1 : Int32) + (1 : Int32)), vI (1 : Int32), vL m1, vS, vI oa1, vI u3, vI ob1]) rfl (pc' := 320) rfl ?_
  refine own_lload X4 hx (hb hby d9_320) rfl (pc' := 322) rfl ?_
  refine own_lload X4 hx (hb hby d9_322) rfl (pc' := 324) rfl ?_
  refine own_lxor X4 hx (hb hby d9_324) (pc' := 325) rfl ?_
  refine own_lstore X4 hx (hb hby d9_325) (l' := #[vR ra, vR rb, vI u2, vI u3, vL (((own_rot (t1.1 + t1.2.1) (32 : Int32)) + ((own_rot (t1.2.2.2 ^^^ m1) (16 : Int32)) ^^^ (t1.2.2.1 + (t1.2.2.2 ^^^ m1)))) ^^^ m1), vS, vL ((own_rot ((own_rot t1.2.1 (13 : Int32)) ^^^ (t1.1 + t1.2.1)) (17 : Int32)) ^^^ ((t1.2.2.1 + (t1.2.2.2 ^^^ m1)) + ((own_rot t1.2.1 (13 : Int32)) ^^^ (t1.1 + t1.2.1)))), vS, vL (own_rot ((t1.2.2.1 + (t1.2.2.2 ^^^ m1)) + ((own_rot t1.2.1 (13 : Int32)) ^^^ (t1.1 + t1.2.1))) (32 : Int32)), vS, vL ((own_rot ((own_rot (t1.2.2.2 ^^^ m1) (16 : Int32)) ^^^ (t1.2.2.1 + (t1.2.2.2 ^^^ m1))) (21 : Int32)) ^^^ ((own_rot (t1.1 + t1.2.1) (32 : Int32)) + ((own_rot (t1.2.2.2 ^^^ m1) (16 : Int32)) ^^^ (t1.2.2.1 + (t1.2.2.2 ^^^ m1))))), vS, vI (u3 - u2), vI ((1 : Int32) + (1 : Int32)), vI (1 : Int32), vL m1, vS, vI oa1, vI u3, vI ob1]) rfl (pc' := 327) rfl ?_
  refine own_iinc X4 hx (hb hby d9_327) rfl (z := (1 : Int32)) rfl (l' := #[vR ra, vR rb, vI u2, vI u3, vL (((own_rot (t1.1 + t1.2.1) (32 : Int32)) + ((own_rot (t1.2.2.2 ^^^ m1) (16 : Int32)) ^^^ (t1.2.2.1 + (t1.2.2.2 ^^^ m1)))) ^^^ m1), vS, vL ((own_rot ((own_rot t1.2.1 (13 : Int32)) ^^^ (t1.1 + t1.2.1)) (17 : Int32)) ^^^ ((t1.2.2.1 + (t1.2.2.2 ^^^ m1)) + ((own_rot t1.2.1 (13 : Int32)) ^^^ (t1.1 + t1.2.1)))), vS, vL (own_rot ((t1.2.2.1 + (t1.2.2.2 ^^^ m1)) + ((own_rot t1.2.1 (13 : Int32)) ^^^ (t1.1 + t1.2.1))) (32 : Int32)), vS, vL ((own_rot ((own_rot (t1.2.2.2 ^^^ m1) (16 : Int32)) ^^^ (t1.2.2.1 + (t1.2.2.2 ^^^ m1))) (21 : Int32)) ^^^ ((own_rot (t1.1 + t1.2.1) (32 : Int32)) + ((own_rot (t1.2.2.2 ^^^ m1) (16 : Int32)) ^^^ (t1.2.2.1 + (t1.2.2.2 ^^^ m1))))), vS, vI (u3 - u2), vI ((1 : Int32) + (1 : Int32)), vI ((1 : Int32) + (1 : Int32)), vL m1, vS, vI oa1, vI u3, vI ob1]) rfl (pc' := 330) rfl ?_
  refine own_goto X4 hx (hb hby d9_330) (by decide) (pc' := 57) rfl ?_
  show own_G p e below s _ _ _ (T4.setTop (mkF m 57 #[vR ra, vR rb, vI u2, vI u3, vL ((own_comp m1 t1).1), vS, vL ((own_comp m1 t1).2.1), vS, vL ((own_comp m1 t1).2.2.1), vS, vL ((own_comp m1 t1).2.2.2), vS, vI (u3 - u2), vI ((1 : Int32) + (1 : Int32)), vI (2 : Int32), vL m1, vS, vI oa1, vI u3, vI ob1] []))
  generalize ht2 : (own_comp m1 t1) = t2
  refine own_iload X4 hx (hb hby d9_57) rfl (pc' := 59) rfl ?_
  refine own_iload X4 hx (hb hby d9_59) rfl (pc' := 61) rfl ?_
  refine own_iconst X4 hx (hb hby d9_61) (z := (3 : Int32)) rfl (pc' := 62) rfl ?_
  refine own_iadd X4 hx (hb hby d9_62) (pc' := 63) rfl ?_
  refine own_icmpF X4 hx (hb hby d9_63) (by decide) (pc' := 66) rfl ?_
  refine own_lconst X4 hx (hb hby d9_66) (z := (0 : Int64)) (by decide) (pc' := 67) rfl ?_
  refine own_lstore X4 hx (hb hby d9_67) (l' := #[vR ra, vR rb, vI u2, vI u3, vL t2.1, vS, vL t2.2.1, vS, vL t2.2.2.1, vS, vL t2.2.2.2, vS, vI (u3 - u2), vI ((1 : Int32) + (1 : Int32)), vI (2 : Int32), vL (0 : Int64), vS, vI oa1, vI u3, vI ob1]) rfl (pc' := 69) rfl ?_
  refine own_iload X4 hx (hb hby d9_69) rfl (pc' := 71) rfl ?_
  refine own_iload X4 hx (hb hby d9_71) rfl (pc' := 73) rfl ?_
  refine own_icmpT X4 hx (hb hby d9_73) (by decide) (by decide) (pc' := 164) rfl ?_
  refine own_iload X4 hx (hb hby d9_164) rfl (pc' := 166) rfl ?_
  refine own_iload X4 hx (hb hby d9_166) rfl (pc' := 168) rfl ?_
  refine own_icmpF X4 hx (hb hby d9_168) (by decide) (pc' := 171) rfl ?_
  refine own_lload X4 hx (hb hby d9_171) rfl (pc' := 173) rfl ?_
  refine own_ldc2 X4 hx hZ hown (ow_49 hw) (hb hby d9_173) (pc' := 176) rfl ?_
  refine own_lxor X4 hx (hb hby d9_176) (pc' := 177) rfl ?_
  refine own_lstore X4 hx (hb hby d9_177) (l' := #[vR ra, vR rb, vI u2, vI u3, vL t2.1, vS, vL t2.2.1, vS, vL (t2.2.2.1 ^^^ (255 : Int64)), vS, vL t2.2.2.2, vS, vI (u3 - u2), vI ((1 : Int32) + (1 : Int32)), vI (2 : Int32), vL (0 : Int64), vS, vI oa1, vI u3, vI ob1]) rfl (pc' := 179) rfl ?_
  refine own_lload X4 hx (hb hby d9_179) rfl (pc' := 181) rfl ?_
  refine own_lload X4 hx (hb hby d9_181) rfl (pc' := 183) rfl ?_
  refine own_lxor X4 hx (hb hby d9_183) (pc' := 184) rfl ?_
  refine own_lstore X4 hx (hb hby d9_184) (l' := #[vR ra, vR rb, vI u2, vI u3, vL t2.1, vS, vL t2.2.1, vS, vL (t2.2.2.1 ^^^ (255 : Int64)), vS, vL (t2.2.2.2 ^^^ (0 : Int64)), vS, vI (u3 - u2), vI ((1 : Int32) + (1 : Int32)), vI (2 : Int32), vL (0 : Int64), vS, vI oa1, vI u3, vI ob1]) rfl (pc' := 186) rfl ?_
  refine own_lload X4 hx (hb hby d9_186) rfl (pc' := 188) rfl ?_
  refine own_lload X4 hx (hb hby d9_188) rfl (pc' := 190) rfl ?_
  refine own_ladd X4 hx (hb hby d9_190) (pc' := 191) rfl ?_
  refine own_lstore X4 hx (hb hby d9_191) (l' := #[vR ra, vR rb, vI u2, vI u3, vL (t2.1 + t2.2.1), vS, vL t2.2.1, vS, vL (t2.2.2.1 ^^^ (255 : Int64)), vS, vL (t2.2.2.2 ^^^ (0 : Int64)), vS, vI (u3 - u2), vI ((1 : Int32) + (1 : Int32)), vI (2 : Int32), vL (0 : Int64), vS, vI oa1, vI u3, vI ob1]) rfl (pc' := 193) rfl ?_
  refine own_lload X4 hx (hb hby d9_193) rfl (pc' := 195) rfl ?_
  refine own_bipush X4 hx (hb hby d9_195) (z := (13 : Int32)) (by decide) (pc' := 197) rfl ?_
  refine own_lshl X4 hx (hb hby d9_197) (pc' := 198) rfl ?_
  refine own_lload X4 hx (hb hby d9_198) rfl (pc' := 200) rfl ?_
  refine own_bipush X4 hx (hb hby d9_200) (z := (51 : Int32)) (by decide) (pc' := 202) rfl ?_
  refine own_lushr X4 hx (hb hby d9_202) (pc' := 203) rfl ?_
  refine own_lor X4 hx (hb hby d9_203) (pc' := 204) rfl ?_
  rw [own_r13]
  refine own_lstore X4 hx (hb hby d9_204) (l' := #[vR ra, vR rb, vI u2, vI u3, vL (t2.1 + t2.2.1), vS, vL (own_rot t2.2.1 (13 : Int32)), vS, vL (t2.2.2.1 ^^^ (255 : Int64)), vS, vL (t2.2.2.2 ^^^ (0 : Int64)), vS, vI (u3 - u2), vI ((1 : Int32) + (1 : Int32)), vI (2 : Int32), vL (0 : Int64), vS, vI oa1, vI u3, vI ob1]) rfl (pc' := 206) rfl ?_
  refine own_lload X4 hx (hb hby d9_206) rfl (pc' := 208) rfl ?_
  refine own_lload X4 hx (hb hby d9_208) rfl (pc' := 210) rfl ?_
  refine own_lxor X4 hx (hb hby d9_210) (pc' := 211) rfl ?_
  refine own_lstore X4 hx (hb hby d9_211) (l' := #[vR ra, vR rb, vI u2, vI u3, vL (t2.1 + t2.2.1), vS, vL ((own_rot t2.2.1 (13 : Int32)) ^^^ (t2.1 + t2.2.1)), vS, vL (t2.2.2.1 ^^^ (255 : Int64)), vS, vL (t2.2.2.2 ^^^ (0 : Int64)), vS, vI (u3 - u2), vI ((1 : Int32) + (1 : Int32)), vI (2 : Int32), vL (0 : Int64), vS, vI oa1, vI u3, vI ob1]) rfl (pc' := 213) rfl ?_
  refine own_lload X4 hx (hb hby d9_213) rfl (pc' := 215) rfl ?_
  refine own_bipush X4 hx (hb hby d9_215) (z := (32 : Int32)) (by decide) (pc' := 217) rfl ?_
  refine own_lshl X4 hx (hb hby d9_217) (pc' := 218) rfl ?_
  refine own_lload X4 hx (hb hby d9_218) rfl (pc' := 220) rfl ?_
  refine own_bipush X4 hx (hb hby d9_220) (z := (32 : Int32)) (by decide) (pc' := 222) rfl ?_
  refine own_lushr X4 hx (hb hby d9_222) (pc' := 223) rfl ?_
  refine own_lor X4 hx (hb hby d9_223) (pc' := 224) rfl ?_
  rw [own_r32]
  refine own_lstore X4 hx (hb hby d9_224) (l' := #[vR ra, vR rb, vI u2, vI u3, vL (own_rot (t2.1 + t2.2.1) (32 : Int32)), vS, vL ((own_rot t2.2.1 (13 : Int32)) ^^^ (t2.1 + t2.2.1)), vS, vL (t2.2.2.1 ^^^ (255 : Int64)), vS, vL (t2.2.2.2 ^^^ (0 : Int64)), vS, vI (u3 - u2), vI ((1 : Int32) + (1 : Int32)), vI (2 : Int32), vL (0 : Int64), vS, vI oa1, vI u3, vI ob1]) rfl (pc' := 226) rfl ?_
  refine own_lload X4 hx (hb hby d9_226) rfl (pc' := 228) rfl ?_
  refine own_lload X4 hx (hb hby d9_228) rfl (pc' := 230) rfl ?_
  refine own_ladd X4 hx (hb hby d9_230) (pc' := 231) rfl ?_
  refine own_lstore X4 hx (hb hby d9_231) (l' := #[vR ra, vR rb, vI u2, vI u3, vL (own_rot (t2.1 + t2.2.1) (32 : Int32)), vS, vL ((own_rot t2.2.1 (13 : Int32)) ^^^ (t2.1 + t2.2.1)), vS, vL ((t2.2.2.1 ^^^ (255 : Int64)) + (t2.2.2.2 ^^^ (0 : Int64))), vS, vL (t2.2.2.2 ^^^ (0 : Int64)), vS, vI (u3 - u2), vI ((1 : Int32) + (1 : Int32)), vI (2 : Int32), vL (0 : Int64), vS, vI oa1, vI u3, vI ob1]) rfl (pc' := 233) rfl ?_
  refine own_lload X4 hx (hb hby d9_233) rfl (pc' := 235) rfl ?_
  refine own_bipush X4 hx (hb hby d9_235) (z := (16 : Int32)) (by decide) (pc' := 237) rfl ?_
  refine own_lshl X4 hx (hb hby d9_237) (pc' := 238) rfl ?_
  refine own_lload X4 hx (hb hby d9_238) rfl (pc' := 240) rfl ?_
  refine own_bipush X4 hx (hb hby d9_240) (z := (48 : Int32)) (by decide) (pc' := 242) rfl ?_
  refine own_lushr X4 hx (hb hby d9_242) (pc' := 243) rfl ?_
  refine own_lor X4 hx (hb hby d9_243) (pc' := 244) rfl ?_
  rw [own_r16]
  refine own_lstore X4 hx (hb hby d9_244) (l' := #[vR ra, vR rb, vI u2, vI u3, vL (own_rot (t2.1 + t2.2.1) (32 : Int32)), vS, vL ((own_rot t2.2.1 (13 : Int32)) ^^^ (t2.1 + t2.2.1)), vS, vL ((t2.2.2.1 ^^^ (255 : Int64)) + (t2.2.2.2 ^^^ (0 : Int64))), vS, vL (own_rot (t2.2.2.2 ^^^ (0 : Int64)) (16 : Int32)), vS, vI (u3 - u2), vI ((1 : Int32) + (1 : Int32)), vI (2 : Int32), vL (0 : Int64), vS, vI oa1, vI u3, vI ob1]) rfl (pc' := 246) rfl ?_
  refine own_lload X4 hx (hb hby d9_246) rfl (pc' := 248) rfl ?_
  refine own_lload X4 hx (hb hby d9_248) rfl (pc' := 250) rfl ?_
  refine own_lxor X4 hx (hb hby d9_250) (pc' := 251) rfl ?_
  refine own_lstore X4 hx (hb hby d9_251) (l' := #[vR ra, vR rb, vI u2, vI u3, vL (own_rot (t2.1 + t2.2.1) (32 : Int32)), vS, vL ((own_rot t2.2.1 (13 : Int32)) ^^^ (t2.1 + t2.2.1)), vS, vL ((t2.2.2.1 ^^^ (255 : Int64)) + (t2.2.2.2 ^^^ (0 : Int64))), vS, vL ((own_rot (t2.2.2.2 ^^^ (0 : Int64)) (16 : Int32)) ^^^ ((t2.2.2.1 ^^^ (255 : Int64)) + (t2.2.2.2 ^^^ (0 : Int64)))), vS, vI (u3 - u2), vI ((1 : Int32) + (1 : Int32)), vI (2 : Int32), vL (0 : Int64), vS, vI oa1, vI u3, vI ob1]) rfl (pc' := 253) rfl ?_
  refine own_lload X4 hx (hb hby d9_253) rfl (pc' := 255) rfl ?_
  refine own_lload X4 hx (hb hby d9_255) rfl (pc' := 257) rfl ?_
  refine own_ladd X4 hx (hb hby d9_257) (pc' := 258) rfl ?_
  refine own_lstore X4 hx (hb hby d9_258) (l' := #[vR ra, vR rb, vI u2, vI u3, vL ((own_rot (t2.1 + t2.2.1) (32 : Int32)) + ((own_rot (t2.2.2.2 ^^^ (0 : Int64)) (16 : Int32)) ^^^ ((t2.2.2.1 ^^^ (255 : Int64)) + (t2.2.2.2 ^^^ (0 : Int64))))), vS, vL ((own_rot t2.2.1 (13 : Int32)) ^^^ (t2.1 + t2.2.1)), vS, vL ((t2.2.2.1 ^^^ (255 : Int64)) + (t2.2.2.2 ^^^ (0 : Int64))), vS, vL ((own_rot (t2.2.2.2 ^^^ (0 : Int64)) (16 : Int32)) ^^^ ((t2.2.2.1 ^^^ (255 : Int64)) + (t2.2.2.2 ^^^ (0 : Int64)))), vS, vI (u3 - u2), vI ((1 : Int32) + (1 : Int32)), vI (2 : Int32), vL (0 : Int64), vS, vI oa1, vI u3, vI ob1]) rfl (pc' := 260) rfl ?_
  refine own_lload X4 hx (hb hby d9_260) rfl (pc' := 262) rfl ?_
  refine own_bipush X4 hx (hb hby d9_262) (z := (21 : Int32)) (by decide) (pc' := 264) rfl ?_
  refine own_lshl X4 hx (hb hby d9_264) (pc' := 265) rfl ?_
  refine own_lload X4 hx (hb hby d9_265) rfl (pc' := 267) rfl ?_
  refine own_bipush X4 hx (hb hby d9_267) (z := (43 : Int32)) (by decide) (pc' := 269) rfl ?_
  refine own_lushr X4 hx (hb hby d9_269) (pc' := 270) rfl ?_
  refine own_lor X4 hx (hb hby d9_270) (pc' := 271) rfl ?_
  rw [own_r21]
  refine own_lstore X4 hx (hb hby d9_271) (l' := #[vR ra, vR rb, vI u2, vI u3, vL ((own_rot (t2.1 + t2.2.1) (32 : Int32)) + ((own_rot (t2.2.2.2 ^^^ (0 : Int64)) (16 : Int32)) ^^^ ((t2.2.2.1 ^^^ (255 : Int64)) + (t2.2.2.2 ^^^ (0 : Int64))))), vS, vL ((own_rot t2.2.1 (13 : Int32)) ^^^ (t2.1 + t2.2.1)), vS, vL ((t2.2.2.1 ^^^ (255 : Int64)) + (t2.2.2.2 ^^^ (0 : Int64))), vS, vL (own_rot ((own_rot (t2.2.2.2 ^^^ (0 : Int64)) (16 : Int32)) ^^^ ((t2.2.2.1 ^^^ (255 : Int64)) + (t2.2.2.2 ^^^ (0 : Int64)))) (21 : Int32)), vS, vI (u3 - u2), vI ((1 : Int32) + (1 : Int32)), vI (2 : Int32), vL (0 : Int64), vS, vI oa1, vI u3, vI ob1]) rfl (pc' := 273) rfl ?_
  refine own_lload X4 hx (hb hby d9_273) rfl (pc' := 275) rfl ?_
  refine own_lload X4 hx (hb hby d9_275) rfl (pc' := 277) rfl ?_
  refine own_lxor X4 hx (hb hby d9_277) (pc' := 278) rfl ?_
  refine own_lstore X4 hx (hb hby d9_278) (l' := #[vR ra, vR rb, vI u2, vI u3, vL ((own_rot (t2.1 + t2.2.1) (32 : Int32)) + ((own_rot (t2.2.2.2 ^^^ (0 : Int64)) (16 : Int32)) ^^^ ((t2.2.2.1 ^^^ (255 : Int64)) + (t2.2.2.2 ^^^ (0 : Int64))))), vS, vL ((own_rot t2.2.1 (13 : Int32)) ^^^ (t2.1 + t2.2.1)), vS, vL ((t2.2.2.1 ^^^ (255 : Int64)) + (t2.2.2.2 ^^^ (0 : Int64))), vS, vL ((own_rot ((own_rot (t2.2.2.2 ^^^ (0 : Int64)) (16 : Int32)) ^^^ ((t2.2.2.1 ^^^ (255 : Int64)) + (t2.2.2.2 ^^^ (0 : Int64)))) (21 : Int32)) ^^^ ((own_rot (t2.1 + t2.2.1) (32 : Int32)) + ((own_rot (t2.2.2.2 ^^^ (0 : Int64)) (16 : Int32)) ^^^ ((t2.2.2.1 ^^^ (255 : Int64)) + (t2.2.2.2 ^^^ (0 : Int64)))))), vS, vI (u3 - u2), vI ((1 : Int32) + (1 : Int32)), vI (2 : Int32), vL (0 : Int64), vS, vI oa1, vI u3, vI ob1]) rfl (pc' := 280) rfl ?_
  refine own_lload X4 hx (hb hby d9_280) rfl (pc' := 282) rfl ?_
  refine own_lload X4 hx (hb hby d9_282) rfl (pc' := 284) rfl ?_
  refine own_ladd X4 hx (hb hby d9_284) (pc' := 285) rfl ?_
  refine own_lstore X4 hx (hb hby d9_285) (l' := #[vR ra, vR rb, vI u2, vI u3, vL ((own_rot (t2.1 + t2.2.1) (32 : Int32)) + ((own_rot (t2.2.2.2 ^^^ (0 : Int64)) (16 : Int32)) ^^^ ((t2.2.2.1 ^^^ (255 : Int64)) + (t2.2.2.2 ^^^ (0 : Int64))))), vS, vL ((own_rot t2.2.1 (13 : Int32)) ^^^ (t2.1 + t2.2.1)), vS, vL (((t2.2.2.1 ^^^ (255 : Int64)) + (t2.2.2.2 ^^^ (0 : Int64))) + ((own_rot t2.2.1 (13 : Int32)) ^^^ (t2.1 + t2.2.1))), vS, vL ((own_rot ((own_rot (t2.2.2.2 ^^^ (0 : Int64)) (16 : Int32)) ^^^ ((t2.2.2.1 ^^^ (255 : Int64)) + (t2.2.2.2 ^^^ (0 : Int64)))) (21 : Int32)) ^^^ ((own_rot (t2.1 + t2.2.1) (32 : Int32)) + ((own_rot (t2.2.2.2 ^^^ (0 : Int64)) (16 : Int32)) ^^^ ((t2.2.2.1 ^^^ (255 : Int64)) + (t2.2.2.2 ^^^ (0 : Int64)))))), vS, vI (u3 - u2), vI ((1 : Int32) + (1 : Int32)), vI (2 : Int32), vL (0 : Int64), vS, vI oa1, vI u3, vI ob1]) rfl (pc' := 287) rfl ?_
  refine own_lload X4 hx (hb hby d9_287) rfl (pc' := 289) rfl ?_
  refine own_bipush X4 hx (hb hby d9_289) (z := (17 : Int32)) (by decide) (pc' := 291) rfl ?_
  refine own_lshl X4 hx (hb hby d9_291) (pc' := 292) rfl ?_
  refine own_lload X4 hx (hb hby d9_292) rfl (pc' := 294) rfl ?_
  refine own_bipush X4 hx (hb hby d9_294) (z := (47 : Int32)) (by decide) (pc' := 296) rfl ?_
  refine own_lushr X4 hx (hb hby d9_296) (pc' := 297) rfl ?_
  refine own_lor X4 hx (hb hby d9_297) (pc' := 298) rfl ?_
  rw [own_r17]
  refine own_lstore X4 hx (hb hby d9_298) (l' := #[vR ra, vR rb, vI u2, vI u3, vL ((own_rot (t2.1 + t2.2.1) (32 : Int32)) + ((own_rot (t2.2.2.2 ^^^ (0 : Int64)) (16 : Int32)) ^^^ ((t2.2.2.1 ^^^ (255 : Int64)) + (t2.2.2.2 ^^^ (0 : Int64))))), vS, vL (own_rot ((own_rot t2.2.1 (13 : Int32)) ^^^ (t2.1 + t2.2.1)) (17 : Int32)), vS, vL (((t2.2.2.1 ^^^ (255 : Int64)) + (t2.2.2.2 ^^^ (0 : Int64))) + ((own_rot t2.2.1 (13 : Int32)) ^^^ (t2.1 + t2.2.1))), vS, vL ((own_rot ((own_rot (t2.2.2.2 ^^^ (0 : Int64)) (16 : Int32)) ^^^ ((t2.2.2.1 ^^^ (255 : Int64)) + (t2.2.2.2 ^^^ (0 : Int64)))) (21 : Int32)) ^^^ ((own_rot (t2.1 + t2.2.1) (32 : Int32)) + ((own_rot (t2.2.2.2 ^^^ (0 : Int64)) (16 : Int32)) ^^^ ((t2.2.2.1 ^^^ (255 : Int64)) + (t2.2.2.2 ^^^ (0 : Int64)))))), vS, vI (u3 - u2), vI ((1 : Int32) + (1 : Int32)), vI (2 : Int32), vL (0 : Int64), vS, vI oa1, vI u3, vI ob1]) rfl (pc' := 300) rfl ?_
  refine own_lload X4 hx (hb hby d9_300) rfl (pc' := 302) rfl ?_
  refine own_lload X4 hx (hb hby d9_302) rfl (pc' := 304) rfl ?_
  refine own_lxor X4 hx (hb hby d9_304) (pc' := 305) rfl ?_
  refine own_lstore X4 hx (hb hby d9_305) (l' := #[vR ra, vR rb, vI u2, vI u3, vL ((own_rot (t2.1 + t2.2.1) (32 : Int32)) + ((own_rot (t2.2.2.2 ^^^ (0 : Int64)) (16 : Int32)) ^^^ ((t2.2.2.1 ^^^ (255 : Int64)) + (t2.2.2.2 ^^^ (0 : Int64))))), vS, vL ((own_rot ((own_rot t2.2.1 (13 : Int32)) ^^^ (t2.1 + t2.2.1)) (17 : Int32)) ^^^ (((t2.2.2.1 ^^^ (255 : Int64)) + (t2.2.2.2 ^^^ (0 : Int64))) + ((own_rot t2.2.1 (13 : Int32)) ^^^ (t2.1 + t2.2.1)))), vS, vL (((t2.2.2.1 ^^^ (255 : Int64)) + (t2.2.2.2 ^^^ (0 : Int64))) + ((own_rot t2.2.1 (13 : Int32)) ^^^ (t2.1 + t2.2.1))), vS, vL ((own_rot ((own_rot (t2.2.2.2 ^^^ (0 : Int64)) (16 : Int32)) ^^^ ((t2.2.2.1 ^^^ (255 : Int64)) + (t2.2.2.2 ^^^ (0 : Int64)))) (21 : Int32)) ^^^ ((own_rot (t2.1 + t2.2.1) (32 : Int32)) + ((own_rot (t2.2.2.2 ^^^ (0 : Int64)) (16 : Int32)) ^^^ ((t2.2.2.1 ^^^ (255 : Int64)) + (t2.2.2.2 ^^^ (0 : Int64)))))), vS, vI (u3 - u2), vI ((1 : Int32) + (1 : Int32)), vI (2 : Int32), vL (0 : Int64), vS, vI oa1, vI u3, vI ob1]) rfl (pc' := 307) rfl ?_
  refine own_lload X4 hx (hb hby d9_307) rfl (pc' := 309) rfl ?_
  refine own_bipush X4 hx (hb hby d9_309) (z := (32 : Int32)) (by decide) (pc' := 311) rfl ?_
  refine own_lshl X4 hx (hb hby d9_311) (pc' := 312) rfl ?_
  refine own_lload X4 hx (hb hby d9_312) rfl (pc' := 314) rfl ?_
  refine own_bipush X4 hx (hb hby d9_314) (z := (32 : Int32)) (by decide) (pc' := 316) rfl ?_
  refine own_lushr X4 hx (hb hby d9_316) (pc' := 317) rfl ?_
  refine own_lor X4 hx (hb hby d9_317) (pc' := 318) rfl ?_
  rw [own_r32]
  refine own_lstore X4 hx (hb hby d9_318) (l' := #[vR ra, vR rb, vI u2, vI u3, vL ((own_rot (t2.1 + t2.2.1) (32 : Int32)) + ((own_rot (t2.2.2.2 ^^^ (0 : Int64)) (16 : Int32)) ^^^ ((t2.2.2.1 ^^^ (255 : Int64)) + (t2.2.2.2 ^^^ (0 : Int64))))), vS, vL ((own_rot ((own_rot t2.2.1 (13 : Int32)) ^^^ (t2.1 + t2.2.1)) (17 : Int32)) ^^^ (((t2.2.2.1 ^^^ (255 : Int64)) + (t2.2.2.2 ^^^ (0 : Int64))) + ((own_rot t2.2.1 (13 : Int32)) ^^^ (t2.1 + t2.2.1)))), vS, vL (own_rot (((t2.2.2.1 ^^^ (255 : Int64)) + (t2.2.2.2 ^^^ (0 : Int64))) + ((own_rot t2.2.1 (13 : Int32)) ^^^ (t2.1 + t2.2.1))) (32 : Int32)), vS, vL ((own_rot ((own_rot (t2.2.2.2 ^^^ (0 : Int64)) (16 : Int32)) ^^^ ((t2.2.2.1 ^^^ (255 : Int64)) + (t2.2.2.2 ^^^ (0 : Int64)))) (21 : Int32)) ^^^ ((own_rot (t2.1 + t2.2.1) (32 : Int32)) + ((own_rot (t2.2.2.2 ^^^ (0 : Int64)) (16 : Int32)) ^^^ ((t2.2.2.1 ^^^ (255 : Int64)) + (t2.2.2.2 ^^^ (0 : Int64)))))), vS, vI (u3 - u2), vI ((1 : Int32) + (1 : Int32)), vI (2 : Int32), vL (0 : Int64), vS, vI oa1, vI u3, vI ob1]) rfl (pc' := 320) rfl ?_
  refine own_lload X4 hx (hb hby d9_320) rfl (pc' := 322) rfl ?_
  refine own_lload X4 hx (hb hby d9_322) rfl (pc' := 324) rfl ?_
  refine own_lxor X4 hx (hb hby d9_324) (pc' := 325) rfl ?_
  refine own_lstore X4 hx (hb hby d9_325) (l' := #[vR ra, vR rb, vI u2, vI u3, vL (((own_rot (t2.1 + t2.2.1) (32 : Int32)) + ((own_rot (t2.2.2.2 ^^^ (0 : Int64)) (16 : Int32)) ^^^ ((t2.2.2.1 ^^^ (255 : Int64)) + (t2.2.2.2 ^^^ (0 : Int64))))) ^^^ (0 : Int64)), vS, vL ((own_rot ((own_rot t2.2.1 (13 : Int32)) ^^^ (t2.1 + t2.2.1)) (17 : Int32)) ^^^ (((t2.2.2.1 ^^^ (255 : Int64)) + (t2.2.2.2 ^^^ (0 : Int64))) + ((own_rot t2.2.1 (13 : Int32)) ^^^ (t2.1 + t2.2.1)))), vS, vL (own_rot (((t2.2.2.1 ^^^ (255 : Int64)) + (t2.2.2.2 ^^^ (0 : Int64))) + ((own_rot t2.2.1 (13 : Int32)) ^^^ (t2.1 + t2.2.1))) (32 : Int32)), vS, vL ((own_rot ((own_rot (t2.2.2.2 ^^^ (0 : Int64)) (16 : Int32)) ^^^ ((t2.2.2.1 ^^^ (255 : Int64)) + (t2.2.2.2 ^^^ (0 : Int64)))) (21 : Int32)) ^^^ ((own_rot (t2.1 + t2.2.1) (32 : Int32)) + ((own_rot (t2.2.2.2 ^^^ (0 : Int64)) (16 : Int32)) ^^^ ((t2.2.2.1 ^^^ (255 : Int64)) + (t2.2.2.2 ^^^ (0 : Int64)))))), vS, vI (u3 - u2), vI ((1 : Int32) + (1 : Int32)), vI (2 : Int32), vL (0 : Int64), vS, vI oa1, vI u3, vI ob1]) rfl (pc' := 327) rfl ?_
  refine own_iinc X4 hx (hb hby d9_327) rfl (z := (1 : Int32)) rfl (l' := #[vR ra, vR rb, vI u2, vI u3, vL (((own_rot (t2.1 + t2.2.1) (32 : Int32)) + ((own_rot (t2.2.2.2 ^^^ (0 : Int64)) (16 : Int32)) ^^^ ((t2.2.2.1 ^^^ (255 : Int64)) + (t2.2.2.2 ^^^ (0 : Int64))))) ^^^ (0 : Int64)), vS, vL ((own_rot ((own_rot t2.2.1 (13 : Int32)) ^^^ (t2.1 + t2.2.1)) (17 : Int32)) ^^^ (((t2.2.2.1 ^^^ (255 : Int64)) + (t2.2.2.2 ^^^ (0 : Int64))) + ((own_rot t2.2.1 (13 : Int32)) ^^^ (t2.1 + t2.2.1)))), vS, vL (own_rot (((t2.2.2.1 ^^^ (255 : Int64)) + (t2.2.2.2 ^^^ (0 : Int64))) + ((own_rot t2.2.1 (13 : Int32)) ^^^ (t2.1 + t2.2.1))) (32 : Int32)), vS, vL ((own_rot ((own_rot (t2.2.2.2 ^^^ (0 : Int64)) (16 : Int32)) ^^^ ((t2.2.2.1 ^^^ (255 : Int64)) + (t2.2.2.2 ^^^ (0 : Int64)))) (21 : Int32)) ^^^ ((own_rot (t2.1 + t2.2.1) (32 : Int32)) + ((own_rot (t2.2.2.2 ^^^ (0 : Int64)) (16 : Int32)) ^^^ ((t2.2.2.1 ^^^ (255 : Int64)) + (t2.2.2.2 ^^^ (0 : Int64)))))), vS, vI (u3 - u2), vI ((1 : Int32) + (1 : Int32)), vI ((2 : Int32) + (1 : Int32)), vL (0 : Int64), vS, vI oa1, vI u3, vI ob1]) rfl (pc' := 330) rfl ?_
  refine own_goto X4 hx (hb hby d9_330) (by decide) (pc' := 57) rfl ?_
  show own_G p e below s _ _ _ (T4.setTop (mkF m 57 #[vR ra, vR rb, vI u2, vI u3, vL ((own_comp (0 : Int64) (own_ff t2)).1), vS, vL ((own_comp (0 : Int64) (own_ff t2)).2.1), vS, vL ((own_comp (0 : Int64) (own_ff t2)).2.2.1), vS, vL ((own_comp (0 : Int64) (own_ff t2)).2.2.2), vS, vI (u3 - u2), vI ((1 : Int32) + (1 : Int32)), vI (3 : Int32), vL (0 : Int64), vS, vI oa1, vI u3, vI ob1] []))
  generalize ht3 : (own_comp (0 : Int64) (own_ff t2)) = t3
  refine own_iload X4 hx (hb hby d9_57) rfl (pc' := 59) rfl ?_
  refine own_iload X4 hx (hb hby d9_59) rfl (pc' := 61) rfl ?_
  refine own_iconst X4 hx (hb hby d9_61) (z := (3 : Int32)) rfl (pc' := 62) rfl ?_
  refine own_iadd X4 hx (hb hby d9_62) (pc' := 63) rfl ?_
  refine own_icmpF X4 hx (hb hby d9_63) (by decide) (pc' := 66) rfl ?_
  refine own_lconst X4 hx (hb hby d9_66) (z := (0 : Int64)) (by decide) (pc' := 67) rfl ?_
  refine own_lstore X4 hx (hb hby d9_67) (l' := #[vR ra, vR rb, vI u2, vI u3, vL t3.1, vS, vL t3.2.1, vS, vL t3.2.2.1, vS, vL t3.2.2.2, vS, vI (u3 - u2), vI ((1 : Int32) + (1 : Int32)), vI (3 : Int32), vL (0 : Int64), vS, vI oa1, vI u3, vI ob1]) rfl (pc' := 69) rfl ?_
  refine own_iload X4 hx (hb hby d9_69) rfl (pc' := 71) rfl ?_
  refine own_iload X4 hx (hb hby d9_71) rfl (pc' := 73) rfl ?_
  refine own_icmpT X4 hx (hb hby d9_73) (by decide) (by decide) (pc' := 164) rfl ?_
  refine own_iload X4 hx (hb hby d9_164) rfl (pc' := 166) rfl ?_
  refine own_iload X4 hx (hb hby d9_166) rfl (pc' := 168) rfl ?_
  refine own_icmpT X4 hx (hb hby d9_168) (by decide) (by decide) (pc' := 179) rfl ?_
  refine own_lload X4 hx (hb hby d9_179) rfl (pc' := 181) rfl ?_
  refine own_lload X4 hx (hb hby d9_181) rfl (pc' := 183) rfl ?_
  refine own_lxor X4 hx (hb hby d9_183) (pc' := 184) rfl ?_
  refine own_lstore X4 hx (hb hby d9_184) (l' := #[vR ra, vR rb, vI u2, vI u3, vL t3.1, vS, vL t3.2.1, vS, vL t3.2.2.1, vS, vL (t3.2.2.2 ^^^ (0 : Int64)), vS, vI (u3 - u2), vI ((1 : Int32) + (1 : Int32)), vI (3 : Int32), vL (0 : Int64), vS, vI oa1, vI u3, vI ob1]) rfl (pc' := 186) rfl ?_
  refine own_lload X4 hx (hb hby d9_186) rfl (pc' := 188) rfl ?_
  refine own_lload X4 hx (hb hby d9_188) rfl (pc' := 190) rfl ?_
  refine own_ladd X4 hx (hb hby d9_190) (pc' := 191) rfl ?_
  refine own_lstore X4 hx (hb hby d9_191) (l' := #[vR ra, vR rb, vI u2, vI u3, vL (t3.1 + t3.2.1), vS, vL t3.2.1, vS, vL t3.2.2.1, vS, vL (t3.2.2.2 ^^^ (0 : Int64)), vS, vI (u3 - u2), vI ((1 : Int32) + (1 : Int32)), vI (3 : Int32), vL (0 : Int64), vS, vI oa1, vI u3, vI ob1]) rfl (pc' := 193) rfl ?_
  refine own_lload X4 hx (hb hby d9_193) rfl (pc' := 195) rfl ?_
  refine own_bipush X4 hx (hb hby d9_195) (z := (13 : Int32)) (by decide) (pc' := 197) rfl ?_
  refine own_lshl X4 hx (hb hby d9_197) (pc' := 198) rfl ?_
  refine own_lload X4 hx (hb hby d9_198) rfl (pc' := 200) rfl ?_
  refine own_bipush X4 hx (hb hby d9_200) (z := (51 : Int32)) (by decide) (pc' := 202) rfl ?_
  refine own_lushr X4 hx (hb hby d9_202) (pc' := 203) rfl ?_
  refine own_lor X4 hx (hb hby d9_203) (pc' := 204) rfl ?_
  rw [own_r13]
  refine own_lstore X4 hx (hb hby d9_204) (l' := #[vR ra, vR rb, vI u2, vI u3, vL (t3.1 + t3.2.1), vS, vL (own_rot t3.2.1 (13 : Int32)), vS, vL t3.2.2.1, vS, vL (t3.2.2.2 ^^^ (0 : Int64)), vS, vI (u3 - u2), vI ((1 : Int32) + (1 : Int32)), vI (3 : Int32), vL (0 : Int64), vS, vI oa1, vI u3, vI ob1]) rfl (pc' := 206) rfl ?_
  refine own_lload X4 hx (hb hby d9_206) rfl (pc' := 208) rfl ?_
  refine own_lload X4 hx (hb hby d9_208) rfl (pc' := 210) rfl ?_
  refine own_lxor X4 hx (hb hby d9_210) (pc' := 211) rfl ?_
  refine own_lstore X4 hx (hb hby d9_211) (l' := #[vR ra, vR rb, vI u2, vI u3, vL (t3.1 + t3.2.1), vS, vL ((own_rot t3.2.1 (13 : Int32)) ^^^ (t3.1 + t3.2.1)), vS, vL t3.2.2.1, vS, vL (t3.2.2.2 ^^^ (0 : Int64)), vS, vI (u3 - u2), vI ((1 : Int32) + (1 : Int32)), vI (3 : Int32), vL (0 : Int64), vS, vI oa1, vI u3, vI ob1]) rfl (pc' := 213) rfl ?_
  refine own_lload X4 hx (hb hby d9_213) rfl (pc' := 215) rfl ?_
  refine own_bipush X4 hx (hb hby d9_215) (z := (32 : Int32)) (by decide) (pc' := 217) rfl ?_
  refine own_lshl X4 hx (hb hby d9_217) (pc' := 218) rfl ?_
  refine own_lload X4 hx (hb hby d9_218) rfl (pc' := 220) rfl ?_
  refine own_bipush X4 hx (hb hby d9_220) (z := (32 : Int32)) (by decide) (pc' := 222) rfl ?_
  refine own_lushr X4 hx (hb hby d9_222) (pc' := 223) rfl ?_
  refine own_lor X4 hx (hb hby d9_223) (pc' := 224) rfl ?_
  rw [own_r32]
  refine own_lstore X4 hx (hb hby d9_224) (l' := #[vR ra, vR rb, vI u2, vI u3, vL (own_rot (t3.1 + t3.2.1) (32 : Int32)), vS, vL ((own_rot t3.2.1 (13 : Int32)) ^^^ (t3.1 + t3.2.1)), vS, vL t3.2.2.1, vS, vL (t3.2.2.2 ^^^ (0 : Int64)), vS, vI (u3 - u2), vI ((1 : Int32) + (1 : Int32)), vI (3 : Int32), vL (0 : Int64), vS, vI oa1, vI u3, vI ob1]) rfl (pc' := 226) rfl ?_
  refine own_lload X4 hx (hb hby d9_226) rfl (pc' := 228) rfl ?_
  refine own_lload X4 hx (hb hby d9_228) rfl (pc' := 230) rfl ?_
  refine own_ladd X4 hx (hb hby d9_230) (pc' := 231) rfl ?_
  refine own_lstore X4 hx (hb hby d9_231) (l' := #[vR ra, vR rb, vI u2, vI u3, vL (own_rot (t3.1 + t3.2.1) (32 : Int32)), vS, vL ((own_rot t3.2.1 (13 : Int32)) ^^^ (t3.1 + t3.2.1)), vS, vL (t3.2.2.1 + (t3.2.2.2 ^^^ (0 : Int64))), vS, vL (t3.2.2.2 ^^^ (0 : Int64)), vS, vI (u3 - u2), vI ((1 : Int32) + (1 : Int32)), vI (3 : Int32), vL (0 : Int64), vS, vI oa1, vI u3, vI ob1]) rfl (pc' := 233) rfl ?_
  refine own_lload X4 hx (hb hby d9_233) rfl (pc' := 235) rfl ?_
  refine own_bipush X4 hx (hb hby d9_235) (z := (16 : Int32)) (by decide) (pc' := 237) rfl ?_
  refine own_lshl X4 hx (hb hby d9_237) (pc' := 238) rfl ?_
  refine own_lload X4 hx (hb hby d9_238) rfl (pc' := 240) rfl ?_
  refine own_bipush X4 hx (hb hby d9_240) (z := (48 : Int32)) (by decide) (pc' := 242) rfl ?_
  refine own_lushr X4 hx (hb hby d9_242) (pc' := 243) rfl ?_
  refine own_lor X4 hx (hb hby d9_243) (pc' := 244) rfl ?_
  rw [own_r16]
  refine own_lstore X4 hx (hb hby d9_244) (l' := #[vR ra, vR rb, vI u2, vI u3, vL (own_rot (t3.1 + t3.2.1) (32 : Int32)), vS, vL ((own_rot t3.2.1 (13 : Int32)) ^^^ (t3.1 + t3.2.1)), vS, vL (t3.2.2.1 + (t3.2.2.2 ^^^ (0 : Int64))), vS, vL (own_rot (t3.2.2.2 ^^^ (0 : Int64)) (16 : Int32)), vS, vI (u3 - u2), vI ((1 : Int32) + (1 : Int32)), vI (3 : Int32), vL (0 : Int64), vS, vI oa1, vI u3, vI ob1]) rfl (pc' := 246) rfl ?_
  refine own_lload X4 hx (hb hby d9_246) rfl (pc' := 248) rfl ?_
  refine own_lload X4 hx (hb hby d9_248) rfl (pc' := 250) rfl ?_
  refine own_lxor X4 hx (hb hby d9_250) (pc' := 251) rfl ?_
  refine own_lstore X4 hx (hb hby d9_251) (l' := #[vR ra, vR rb, vI u2, vI u3, vL (own_rot (t3.1 + t3.2.1) (32 : Int32)), vS, vL ((own_rot t3.2.1 (13 : Int32)) ^^^ (t3.1 + t3.2.1)), vS, vL (t3.2.2.1 + (t3.2.2.2 ^^^ (0 : Int64))), vS, vL ((own_rot (t3.2.2.2 ^^^ (0 : Int64)) (16 : Int32)) ^^^ (t3.2.2.1 + (t3.2.2.2 ^^^ (0 : Int64)))), vS, vI (u3 - u2), vI ((1 : Int32) + (1 : Int32)), vI (3 : Int32), vL (0 : Int64), vS, vI oa1, vI u3, vI ob1]) rfl (pc' := 253) rfl ?_
  refine own_lload X4 hx (hb hby d9_253) rfl (pc' := 255) rfl ?_
  refine own_lload X4 hx (hb hby d9_255) rfl (pc' := 257) rfl ?_
  refine own_ladd X4 hx (hb hby d9_257) (pc' := 258) rfl ?_
  refine own_lstore X4 hx (hb hby d9_258) (l' := #[vR ra, vR rb, vI u2, vI u3, vL ((own_rot (t3.1 + t3.2.1) (32 : Int32)) + ((own_rot (t3.2.2.2 ^^^ (0 : Int64)) (16 : Int32)) ^^^ (t3.2.2.1 + (t3.2.2.2 ^^^ (0 : Int64))))), vS, vL ((own_rot t3.2.1 (13 : Int32)) ^^^ (t3.1 + t3.2.1)), vS, vL (t3.2.2.1 + (t3.2.2.2 ^^^ (0 : Int64))), vS, vL ((own_rot (t3.2.2.2 ^^^ (0 : Int64)) (16 : Int32)) ^^^ (t3.2.2.1 + (t3.2.2.2 ^^^ (0 : Int64)))), vS, vI (u3 - u2), vI ((1 : Int32) + (1 : Int32)), vI (3 : Int32), vL (0 : Int64), vS, vI oa1, vI u3, vI ob1]) rfl (pc' := 260) rfl ?_
  refine own_lload X4 hx (hb hby d9_260) rfl (pc' := 262) rfl ?_
  refine own_bipush X4 hx (hb hby d9_262) (z := (21 : Int32)) (by decide) (pc' := 264) rfl ?_
  refine own_lshl X4 hx (hb hby d9_264) (pc' := 265) rfl ?_
  refine own_lload X4 hx (hb hby d9_265) rfl (pc' := 267) rfl ?_
  refine own_bipush X4 hx (hb hby d9_267) (z := (43 : Int32)) (by decide) (pc' := 269) rfl ?_
  refine own_lushr X4 hx (hb hby d9_269) (pc' := 270) rfl ?_
  refine own_lor X4 hx (hb hby d9_270) (pc' := 271) rfl ?_
  rw [own_r21]
  refine own_lstore X4 hx (hb hby d9_271) (l' := #[vR ra, vR rb, vI u2, vI u3, vL ((own_rot (t3.1 + t3.2.1) (32 : Int32)) + ((own_rot (t3.2.2.2 ^^^ (0 : Int64)) (16 : Int32)) ^^^ (t3.2.2.1 + (t3.2.2.2 ^^^ (0 : Int64))))), vS, vL ((own_rot t3.2.1 (13 : Int32)) ^^^ (t3.1 + t3.2.1)), vS, vL (t3.2.2.1 + (t3.2.2.2 ^^^ (0 : Int64))), vS, vL (own_rot ((own_rot (t3.2.2.2 ^^^ (0 : Int64)) (16 : Int32)) ^^^ (t3.2.2.1 + (t3.2.2.2 ^^^ (0 : Int64)))) (21 : Int32)), vS, vI (u3 - u2), vI ((1 : Int32) + (1 : Int32)), vI (3 : Int32), vL (0 : Int64), vS, vI oa1, vI u3, vI ob1]) rfl (pc' := 273) rfl ?_
  refine own_lload X4 hx (hb hby d9_273) rfl (pc' := 275) rfl ?_
  refine own_lload X4 hx (hb hby d9_275) rfl (pc' := 277) rfl ?_
  refine own_lxor X4 hx (hb hby d9_277) (pc' := 278) rfl ?_
  refine own_lstore X4 hx (hb hby d9_278) (l' := #[vR ra, vR rb, vI u2, vI u3, vL ((own_rot (t3.1 + t3.2.1) (32 : Int32)) + ((own_rot (t3.2.2.2 ^^^ (0 : Int64)) (16 : Int32)) ^^^ (t3.2.2.1 + (t3.2.2.2 ^^^ (0 : Int64))))), vS, vL ((own_rot t3.2.1 (13 : Int32)) ^^^ (t3.1 + t3.2.1)), vS, vL (t3.2.2.1 + (t3.2.2.2 ^^^ (0 : Int64))), vS, vL ((own_rot ((own_rot (t3.2.2.2 ^^^ (0 : Int64)) (16 : Int32)) ^^^ (t3.2.2.1 + (t3.2.2.2 ^^^ (0 : Int64)))) (21 : Int32)) ^^^ ((own_rot (t3.1 + t3.2.1) (32 : Int32)) + ((own_rot (t3.2.2.2 ^^^ (0 : Int64)) (16 : Int32)) ^^^ (t3.2.2.1 + (t3.2.2.2 ^^^ (0 : Int64)))))), vS, vI (u3 - u2), vI ((1 : Int32) + (1 : Int32)), vI (3 : Int32), vL (0 : Int64), vS, vI oa1, vI u3, vI ob1]) rfl (pc' := 280) rfl ?_
  refine own_lload X4 hx (hb hby d9_280) rfl (pc' := 282) rfl ?_
  refine own_lload X4 hx (hb hby d9_282) rfl (pc' := 284) rfl ?_
  refine own_ladd X4 hx (hb hby d9_284) (pc' := 285) rfl ?_
  refine own_lstore X4 hx (hb hby d9_285) (l' := #[vR ra, vR rb, vI u2, vI u3, vL ((own_rot (t3.1 + t3.2.1) (32 : Int32)) + ((own_rot (t3.2.2.2 ^^^ (0 : Int64)) (16 : Int32)) ^^^ (t3.2.2.1 + (t3.2.2.2 ^^^ (0 : Int64))))), vS, vL ((own_rot t3.2.1 (13 : Int32)) ^^^ (t3.1 + t3.2.1)), vS, vL ((t3.2.2.1 + (t3.2.2.2 ^^^ (0 : Int64))) + ((own_rot t3.2.1 (13 : Int32)) ^^^ (t3.1 + t3.2.1))), vS, vL ((own_rot ((own_rot (t3.2.2.2 ^^^ (0 : Int64)) (16 : Int32)) ^^^ (t3.2.2.1 + (t3.2.2.2 ^^^ (0 : Int64)))) (21 : Int32)) ^^^ ((own_rot (t3.1 + t3.2.1) (32 : Int32)) + ((own_rot (t3.2.2.2 ^^^ (0 : Int64)) (16 : Int32)) ^^^ (t3.2.2.1 + (t3.2.2.2 ^^^ (0 : Int64)))))), vS, vI (u3 - u2), vI ((1 : Int32) + (1 : Int32)), vI (3 : Int32), vL (0 : Int64), vS, vI oa1, vI u3, vI ob1]) rfl (pc' := 287) rfl ?_
  refine own_lload X4 hx (hb hby d9_287) rfl (pc' := 289) rfl ?_
  refine own_bipush X4 hx (hb hby d9_289) (z := (17 : Int32)) (by decide) (pc' := 291) rfl ?_
  refine own_lshl X4 hx (hb hby d9_291) (pc' := 292) rfl ?_
  refine own_lload X4 hx (hb hby d9_292) rfl (pc' := 294) rfl ?_
  refine own_bipush X4 hx (hb hby d9_294) (z := (47 : Int32)) (by decide) (pc' := 296) rfl ?_
  refine own_lushr X4 hx (hb hby d9_296) (pc' := 297) rfl ?_
  refine own_lor X4 hx (hb hby d9_297) (pc' := 298) rfl ?_
  rw [own_r17]
  refine own_lstore X4 hx (hb hby d9_298) (l' := #[vR ra, vR rb, vI u2, vI u3, vL ((own_rot (t3.1 + t3.2.1) (32 : Int32)) + ((own_rot (t3.2.2.2 ^^^ (0 : Int64)) (16 : Int32)) ^^^ (t3.2.2.1 + (t3.2.2.2 ^^^ (0 : Int64))))), vS, vL (own_rot ((own_rot t3.2.1 (13 : Int32)) ^^^ (t3.1 + t3.2.1)) (17 : Int32)), vS, vL ((t3.2.2.1 + (t3.2.2.2 ^^^ (0 : Int64))) + ((own_rot t3.2.1 (13 : Int32)) ^^^ (t3.1 + t3.2.1))), vS, vL ((own_rot ((own_rot (t3.2.2.2 ^^^ (0 : Int64)) (16 : Int32)) ^^^ (t3.2.2.1 + (t3.2.2.2 ^^^ (0 : Int64)))) (21 : Int32)) ^^^ ((own_rot (t3.1 + t3.2.1) (32 : Int32)) + ((own_rot (t3.2.2.2 ^^^ (0 : Int64)) (16 : Int32)) ^^^ (t3.2.2.1 + (t3.2.2.2 ^^^ (0 : Int64)))))), vS, vI (u3 - u2), vI ((1 : Int32) + (1 : Int32)), vI (3 : Int32), vL (0 : Int64), vS, vI oa1, vI u3, vI ob1]) rfl (pc' := 300) rfl ?_
  refine own_lload X4 hx (hb hby d9_300) rfl (pc' := 302) rfl ?_
  refine own_lload X4 hx (hb hby d9_302) rfl (pc' := 304) rfl ?_
  refine own_lxor X4 hx (hb hby d9_304) (pc' := 305) rfl ?_
  refine own_lstore X4 hx (hb hby d9_305) (l' := #[vR ra, vR rb, vI u2, vI u3, vL ((own_rot (t3.1 + t3.2.1) (32 : Int32)) + ((own_rot (t3.2.2.2 ^^^ (0 : Int64)) (16 : Int32)) ^^^ (t3.2.2.1 + (t3.2.2.2 ^^^ (0 : Int64))))), vS, vL ((own_rot ((own_rot t3.2.1 (13 : Int32)) ^^^ (t3.1 + t3.2.1)) (17 : Int32)) ^^^ ((t3.2.2.1 + (t3.2.2.2 ^^^ (0 : Int64))) + ((own_rot t3.2.1 (13 : Int32)) ^^^ (t3.1 + t3.2.1)))), vS, vL ((t3.2.2.1 + (t3.2.2.2 ^^^ (0 : Int64))) + ((own_rot t3.2.1 (13 : Int32)) ^^^ (t3.1 + t3.2.1))), vS, vL ((own_rot ((own_rot (t3.2.2.2 ^^^ (0 : Int64)) (16 : Int32)) ^^^ (t3.2.2.1 + (t3.2.2.2 ^^^ (0 : Int64)))) (21 : Int32)) ^^^ ((own_rot (t3.1 + t3.2.1) (32 : Int32)) + ((own_rot (t3.2.2.2 ^^^ (0 : Int64)) (16 : Int32)) ^^^ (t3.2.2.1 + (t3.2.2.2 ^^^ (0 : Int64)))))), vS, vI (u3 - u2), vI ((1 : Int32) + (1 : Int32)), vI (3 : Int32), vL (0 : Int64), vS, vI oa1, vI u3, vI ob1]) rfl (pc' := 307) rfl ?_
  refine own_lload X4 hx (hb hby d9_307) rfl (pc' := 309) rfl ?_
  refine own_bipush X4 hx (hb hby d9_309) (z := (32 : Int32)) (by decide) (pc' := 311) rfl ?_
  refine own_lshl X4 hx (hb hby d9_311) (pc' := 312) rfl ?_
  refine own_lload X4 hx (hb hby d9_312) rfl (pc' := 314) rfl ?_
  refine own_bipush X4 hx (hb hby d9_314) (z := (32 : Int32)) (by decide) (pc' := 316) rfl ?_
  refine own_lushr X4 hx (hb hby d9_316) (pc' := 317) rfl ?_
  refine own_lor X4 hx (hb hby d9_317) (pc' := 318) rfl ?_
  rw [own_r32]
  refine own_lstore X4 hx (hb hby d9_318) (l' := #[vR ra, vR rb, vI u2, vI u3, vL ((own_rot (t3.1 + t3.2.1) (32 : Int32)) + ((own_rot (t3.2.2.2 ^^^ (0 : Int64)) (16 : Int32)) ^^^ (t3.2.2.1 + (t3.2.2.2 ^^^ (0 : Int64))))), vS, vL ((own_rot ((own_rot t3.2.1 (13 : Int32)) ^^^ (t3.1 + t3.2.1)) (17 : Int32)) ^^^ ((t3.2.2.1 + (t3.2.2.2 ^^^ (0 : Int64))) + ((own_rot t3.2.1 (13 : Int32)) ^^^ (t3.1 + t3.2.1)))), vS, vL (own_rot ((t3.2.2.1 + (t3.2.2.2 ^^^ (0 : Int64))) + ((own_rot t3.2.1 (13 : Int32)) ^^^ (t3.1 + t3.2.1))) (32 : Int32)), vS, vL ((own_rot ((own_rot (t3.2.2.2 ^^^ (0 : Int64)) (16 : Int32)) ^^^ (t3.2.2.1 + (t3.2.2.2 ^^^ (0 : Int64)))) (21 : Int32)) ^^^ ((own_rot (t3.1 + t3.2.1) (32 : Int32)) + ((own_rot (t3.2.2.2 ^^^ (0 : Int64)) (16 : Int32)) ^^^ (t3.2.2.1 + (t3.2.2.2 ^^^ (0 : Int64)))))), vS, vI (u3 - u2), vI ((1 : Int32) + (1 : Int32)), vI (3 : Int32), vL (0 : Int64), vS, vI oa1, vI u3, vI ob1]) rfl (pc' := 320) rfl ?_
  refine own_lload X4 hx (hb hby d9_320) rfl (pc' := 322) rfl ?_
  refine own_lload X4 hx (hb hby d9_322) rfl (pc' := 324) rfl ?_
  refine own_lxor X4 hx (hb hby d9_324) (pc' := 325) rfl ?_
  refine own_lstore X4 hx (hb hby d9_325) (l' := #[vR ra, vR rb, vI u2, vI u3, vL (((own_rot (t3.1 + t3.2.1) (32 : Int32)) + ((own_rot (t3.2.2.2 ^^^ (0 : Int64)) (16 : Int32)) ^^^ (t3.2.2.1 + (t3.2.2.2 ^^^ (0 : Int64))))) ^^^ (0 : Int64)), vS, vL ((own_rot ((own_rot t3.2.1 (13 : Int32)) ^^^ (t3.1 + t3.2.1)) (17 : Int32)) ^^^ ((t3.2.2.1 + (t3.2.2.2 ^^^ (0 : Int64))) + ((own_rot t3.2.1 (13 : Int32)) ^^^ (t3.1 + t3.2.1)))), vS, vL (own_rot ((t3.2.2.1 + (t3.2.2.2 ^^^ (0 : Int64))) + ((own_rot t3.2.1 (13 : Int32)) ^^^ (t3.1 + t3.2.1))) (32 : Int32)), vS, vL ((own_rot ((own_rot (t3.2.2.2 ^^^ (0 : Int64)) (16 : Int32)) ^^^ (t3.2.2.1 + (t3.2.2.2 ^^^ (0 : Int64)))) (21 : Int32)) ^^^ ((own_rot (t3.1 + t3.2.1) (32 : Int32)) + ((own_rot (t3.2.2.2 ^^^ (0 : Int64)) (16 : Int32)) ^^^ (t3.2.2.1 + (t3.2.2.2 ^^^ (0 : Int64)))))), vS, vI (u3 - u2), vI ((1 : Int32) + (1 : Int32)), vI (3 : Int32), vL (0 : Int64), vS, vI oa1, vI u3, vI ob1]) rfl (pc' := 327) rfl ?_
  refine own_iinc X4 hx (hb hby d9_327) rfl (z := (1 : Int32)) rfl (l' := #[vR ra, vR rb, vI u2, vI u3, vL (((own_rot (t3.1 + t3.2.1) (32 : Int32)) + ((own_rot (t3.2.2.2 ^^^ (0 : Int64)) (16 : Int32)) ^^^ (t3.2.2.1 + (t3.2.2.2 ^^^ (0 : Int64))))) ^^^ (0 : Int64)), vS, vL ((own_rot ((own_rot t3.2.1 (13 : Int32)) ^^^ (t3.1 + t3.2.1)) (17 : Int32)) ^^^ ((t3.2.2.1 + (t3.2.2.2 ^^^ (0 : Int64))) + ((own_rot t3.2.1 (13 : Int32)) ^^^ (t3.1 + t3.2.1)))), vS, vL (own_rot ((t3.2.2.1 + (t3.2.2.2 ^^^ (0 : Int64))) + ((own_rot t3.2.1 (13 : Int32)) ^^^ (t3.1 + t3.2.1))) (32 : Int32)), vS, vL ((own_rot ((own_rot (t3.2.2.2 ^^^ (0 : Int64)) (16 : Int32)) ^^^ (t3.2.2.1 + (t3.2.2.2 ^^^ (0 : Int64)))) (21 : Int32)) ^^^ ((own_rot (t3.1 + t3.2.1) (32 : Int32)) + ((own_rot (t3.2.2.2 ^^^ (0 : Int64)) (16 : Int32)) ^^^ (t3.2.2.1 + (t3.2.2.2 ^^^ (0 : Int64)))))), vS, vI (u3 - u2), vI ((1 : Int32) + (1 : Int32)), vI ((3 : Int32) + (1 : Int32)), vL (0 : Int64), vS, vI oa1, vI u3, vI ob1]) rfl (pc' := 330) rfl ?_
  refine own_goto X4 hx (hb hby d9_330) (by decide) (pc' := 57) rfl ?_
  show own_G p e below s _ _ _ (T4.setTop (mkF m 57 #[vR ra, vR rb, vI u2, vI u3, vL ((own_comp (0 : Int64) t3).1), vS, vL ((own_comp (0 : Int64) t3).2.1), vS, vL ((own_comp (0 : Int64) t3).2.2.1), vS, vL ((own_comp (0 : Int64) t3).2.2.2), vS, vI (u3 - u2), vI ((1 : Int32) + (1 : Int32)), vI (4 : Int32), vL (0 : Int64), vS, vI oa1, vI u3, vI ob1] []))
  generalize ht4 : (own_comp (0 : Int64) t3) = t4
  refine own_iload X4 hx (hb hby d9_57) rfl (pc' := 59) rfl ?_
  refine own_iload X4 hx (hb hby d9_59) rfl (pc' := 61) rfl ?_
  refine own_iconst X4 hx (hb hby d9_61) (z := (3 : Int32)) rfl (pc' := 62) rfl ?_
  refine own_iadd X4 hx (hb hby d9_62) (pc' := 63) rfl ?_
  refine own_icmpF X4 hx (hb hby d9_63) (by decide) (pc' := 66) rfl ?_
  refine own_lconst X4 hx (hb hby d9_66) (z := (0 : Int64)) (by decide) (pc' := 67) rfl ?_
  refine own_lstore X4 hx (hb hby d9_67) (l' := #[vR ra, vR rb, vI u2, vI u3, vL t4.1, vS, vL t4.2.1, vS, vL t4.2.2.1, vS, vL t4.2.2.2, vS, vI (u3 - u2), vI ((1 : Int32) + (1 : Int32)), vI (4 : Int32), vL (0 : Int64), vS, vI oa1, vI u3, vI ob1]) rfl (pc' := 69) rfl ?_
  refine own_iload X4 hx (hb hby d9_69) rfl (pc' := 71) rfl ?_
  refine own_iload X4 hx (hb hby d9_71) rfl (pc' := 73) rfl ?_
  refine own_icmpT X4 hx (hb hby d9_73) (by decide) (by decide) (pc' := 164) rfl ?_
  refine own_iload X4 hx (hb hby d9_164) rfl (pc' := 166) rfl ?_
  refine own_iload X4 hx (hb hby d9_166) rfl (pc' := 168) rfl ?_
  refine own_icmpT X4 hx (hb hby d9_168) (by decide) (by decide) (pc' := 179) rfl ?_
  refine own_lload X4 hx (hb hby d9_179) rfl (pc' := 181) rfl ?_
  refine own_lload X4 hx (hb hby d9_181) rfl (pc' := 183) rfl ?_
  refine own_lxor X4 hx (hb hby d9_183) (pc' := 184) rfl ?_
  refine own_lstore X4 hx (hb hby d9_184) (l' := #[vR ra, vR rb, vI u2, vI u3, vL t4.1, vS, vL t4.2.1, vS, vL t4.2.2.1, vS, vL (t4.2.2.2 ^^^ (0 : Int64)), vS, vI (u3 - u2), vI ((1 : Int32) + (1 : Int32)), vI (4 : Int32), vL (0 : Int64), vS, vI oa1, vI u3, vI ob1]) rfl (pc' := 186) rfl ?_
  refine own_lload X4 hx (hb hby d9_186) rfl (pc' := 188) rfl ?_
  refine own_lload X4 hx (hb hby d9_188) rfl (pc' := 190) rfl ?_
  refine own_ladd X4 hx (hb hby d9_190) (pc' := 191) rfl ?_
  refine own_lstore X4 hx (hb hby d9_191) (l' := #[vR ra, vR rb, vI u2, vI u3, vL (t4.1 + t4.2.1), vS, vL t4.2.1, vS, vL t4.2.2.1, vS, vL (t4.2.2.2 ^^^ (0 : Int64)), vS, vI (u3 - u2), vI ((1 : Int32) + (1 : Int32)), vI (4 : Int32), vL (0 : Int64), vS, vI oa1, vI u3, vI ob1]) rfl (pc' := 193) rfl ?_
  refine own_lload X4 hx (hb hby d9_193) rfl (pc' := 195) rfl ?_
  refine own_bipush X4 hx (hb hby d9_195) (z := (13 : Int32)) (by decide) (pc' := 197) rfl ?_
  refine own_lshl X4 hx (hb hby d9_197) (pc' := 198) rfl ?_
  refine own_lload X4 hx (hb hby d9_198) rfl (pc' := 200) rfl ?_
  refine own_bipush X4 hx (hb hby d9_200) (z := (51 : Int32)) (by decide) (pc' := 202) rfl ?_
  refine own_lushr X4 hx (hb hby d9_202) (pc' := 203) rfl ?_
  refine own_lor X4 hx (hb hby d9_203) (pc' := 204) rfl ?_
  rw [own_r13]
  refine own_lstore X4 hx (hb hby d9_204) (l' := #[vR ra, vR rb, vI u2, vI u3, vL (t4.1 + t4.2.1), vS, vL (own_rot t4.2.1 (13 : Int32)), vS, vL t4.2.2.1, vS, vL (t4.2.2.2 ^^^ (0 : Int64)), vS, vI (u3 - u2), vI ((1 : Int32) + (1 : Int32)), vI (4 : Int32), vL (0 : Int64), vS, vI oa1, vI u3, vI ob1]) rfl (pc' := 206) rfl ?_
  refine own_lload X4 hx (hb hby d9_206) rfl (pc' := 208) rfl ?_
  refine own_lload X4 hx (hb hby d9_208) rfl (pc' := 210) rfl ?_
  refine own_lxor X4 hx (hb hby d9_210) (pc' := 211) rfl ?_
  refine own_lstore X4 hx (hb hby d9_211) (l' := #[vR ra, vR rb, vI u2, vI u3, vL (t4.1 + t4.2.1), vS, vL ((own_rot t4.2.1 (13 : Int32)) ^^^ (t4.1 + t4.2.1)), vS, vL t4.2.2.1, vS, vL (t4.2.2.2 ^^^ (0 : Int64)), vS, vI (u3 - u2), vI ((1 : Int32) + (1 : Int32)), vI (4 : Int32), vL (0 : Int64), vS, vI oa1, vI u3, vI ob1]) rfl (pc' := 213) rfl ?_
  refine own_lload X4 hx (hb hby d9_213) rfl (pc' := 215) rfl ?_
  refine own_bipush X4 hx (hb hby d9_215) (z := (32 : Int32)) (by decide) (pc' := 217) rfl ?_
  refine own_lshl X4 hx (hb hby d9_217) (pc' := 218) rfl ?_
  refine own_lload X4 hx (hb hby d9_218) rfl (pc' := 220) rfl ?_
  refine own_bipush X4 hx (hb hby d9_220) (z := (32 : Int32)) (by decide) (pc' := 222) rfl ?_
  refine own_lushr X4 hx (hb hby d9_222) (pc' := 223) rfl ?_
  refine own_lor X4 hx (hb hby d9_223) (pc' := 224) rfl ?_
  rw [own_r32]
  refine own_lstore X4 hx (hb hby d9_224) (l' := #[vR ra, vR rb, vI u2, vI u3, vL (own_rot (t4.1 + t4.2.1) (32 : Int32)), vS, vL ((own_rot t4.2.1 (13 : Int32)) ^^^ (t4.1 + t4.2.1)), vS, vL t4.2.2.1, vS, vL (t4.2.2.2 ^^^ (0 : Int64)), vS, vI (u3 - u2), vI ((1 : Int32) + (1 : Int32)), vI (4 : Int32), vL (0 : Int64), vS, vI oa1, vI u3, vI ob1]) rfl (pc' := 226) rfl ?_
  refine own_lload X4 hx (hb hby d9_226) rfl (pc' := 228) rfl ?_
  refine own_lload X4 hx (hb hby d9_228) rfl (pc' := 230) rfl ?_
  refine own_ladd X4 hx (hb hby d9_230) (pc' := 231) rfl ?_
  refine own_lstore X4 hx (hb hby d9_231) (l' := #[vR ra, vR rb, vI u2, vI u3, vL (own_rot (t4.1 + t4.2.1) (32 : Int32)), vS, vL ((own_rot t4.2.1 (13 : Int32)) ^^^ (t4.1 + t4.2.1)), vS, vL (t4.2.2.1 + (t4.2.2.2 ^^^ (0 : Int64))), vS, vL (t4.2.2.2 ^^^ (0 : Int64)), vS, vI (u3 - u2), vI ((1 : Int32) + (1 : Int32)), vI (4 : Int32), vL (0 : Int64), vS, vI oa1, vI u3, vI ob1]) rfl (pc' := 233) rfl ?_
  refine own_lload X4 hx (hb hby d9_233) rfl (pc' := 235) rfl ?_
  refine own_bipush X4 hx (hb hby d9_235) (z := (16 : Int32)) (by decide) (pc' := 237) rfl ?_
  refine own_lshl X4 hx (hb hby d9_237) (pc' := 238) rfl ?_
  refine own_lload X4 hx (hb hby d9_238) rfl (pc' := 240) rfl ?_
  refine own_bipush X4 hx (hb hby d9_240) (z := (48 : Int32)) (by decide) (pc' := 242) rfl ?_
  refine own_lushr X4 hx (hb hby d9_242) (pc' := 243) rfl ?_
  refine own_lor X4 hx (hb hby d9_243) (pc' := 244) rfl ?_
  rw [own_r16]
  refine own_lstore X4 hx (hb hby d9_244) (l' := #[vR ra, vR rb, vI u2, vI u3, vL (own_rot (t4.1 + t4.2.1) (32 : Int32)), vS, vL ((own_rot t4.2.1 (13 : Int32)) ^^^ (t4.1 + t4.2.1)), vS, vL (t4.2.2.1 + (t4.2.2.2 ^^^ (0 : Int64))), vS, vL (own_rot (t4.2.2.2 ^^^ (0 : Int64)) (16 : Int32)), vS, vI (u3 - u2), vI ((1 : Int32) + (1 : Int32)), vI (4 : Int32), vL (0 : Int64), vS, vI oa1, vI u3, vI ob1]) rfl (pc' := 246) rfl ?_
  refine own_lload X4 hx (hb hby d9_246) rfl (pc' := 248) rfl ?_
  refine own_lload X4 hx (hb hby d9_248) rfl (pc' := 250) rfl ?_
  refine own_lxor X4 hx (hb hby d9_250) (pc' := 251) rfl ?_
  refine own_lstore X4 hx (hb hby d9_251) (l' := #[vR ra, vR rb, vI u2, vI u3, vL (own_rot (t4.1 + t4.2.1) (32 : Int32)), vS, vL ((own_rot t4.2.1 (13 : Int32)) ^^^ (t4.1 + t4.2.1)), vS, vL (t4.2.2.1 + (t4.2.2.2 ^^^ (0 : Int64))), vS, vL ((own_rot (t4.2.2.2 ^^^ (0 : Int64)) (16 : Int32)) ^^^ (t4.2.2.1 + (t4.2.2.2 ^^^ (0 : Int64)))), vS, vI (u3 - u2), vI ((1 : Int32) + (1 : Int32)), vI (4 : Int32), vL (0 : Int64), vS, vI oa1, vI u3, vI ob1]) rfl (pc' := 253) rfl ?_
  refine own_lload X4 hx (hb hby d9_253) rfl (pc' := 255) rfl ?_
  refine own_lload X4 hx (hb hby d9_255) rfl (pc' := 257) rfl ?_
  refine own_ladd X4 hx (hb hby d9_257) (pc' := 258) rfl ?_
  refine own_lstore X4 hx (hb hby d9_258) (l' := #[vR ra, vR rb, vI u2, vI u3, vL ((own_rot (t4.1 + t4.2.1) (32 : Int32)) + ((own_rot (t4.2.2.2 ^^^ (0 : Int64)) (16 : Int32)) ^^^ (t4.2.2.1 + (t4.2.2.2 ^^^ (0 : Int64))))), vS, vL ((own_rot t4.2.1 (13 : Int32)) ^^^ (t4.1 + t4.2.1)), vS, vL (t4.2.2.1 + (t4.2.2.2 ^^^ (0 : Int64))), vS, vL ((own_rot (t4.2.2.2 ^^^ (0 : Int64)) (16 : Int32)) ^^^ (t4.2.2.1 + (t4.2.2.2 ^^^ (0 : Int64)))), vS, vI (u3 - u2), vI ((1 : Int32) + (1 : Int32)), vI (4 : Int32), vL (0 : Int64), vS, vI oa1, vI u3, vI ob1]) rfl (pc' := 260) rfl ?_
  refine own_lload X4 hx (hb hby d9_260) rfl (pc' := 262) rfl ?_
  refine own_bipush X4 hx (hb hby d9_262) (z := (21 : Int32)) (by decide) (pc' := 264) rfl ?_
  refine own_lshl X4 hx (hb hby d9_264) (pc' := 265) rfl ?_
  refine own_lload X4 hx (hb hby d9_265) rfl (pc' := 267) rfl ?_
  refine own_bipush X4 hx (hb hby d9_267) (z := (43 : Int32)) (by decide) (pc' := 269) rfl ?_
  refine own_lushr X4 hx (hb hby d9_269) (pc' := 270) rfl ?_
  refine own_lor X4 hx (hb hby d9_270) (pc' := 271) rfl ?_
  rw [own_r21]
  refine own_lstore X4 hx (hb hby d9_271) (l' := #[vR ra, vR rb, vI u2, vI u3, vL ((own_rot (t4.1 + t4.2.1) (32 : Int32)) + ((own_rot (t4.2.2.2 ^^^ (0 : Int64)) (16 : Int32)) ^^^ (t4.2.2.1 + (t4.2.2.2 ^^^ (0 : Int64))))), vS, vL ((own_rot t4.2.1 (13 : Int32)) ^^^ (t4.1 + t4.2.1)), vS, vL (t4.2.2.1 + (t4.2.2.2 ^^^ (0 : Int64))), vS, vL (own_rot ((own_rot (t4.2.2.2 ^^^ (0 : Int64)) (16 : Int32)) ^^^ (t4.2.2.1 + (t4.2.2.2 ^^^ (0 : Int64)))) (21 : Int32)), vS, vI (u3 - u2), vI ((1 : Int32) + (1 : Int32)), vI (4 : Int32), vL (0 : Int64), vS, vI oa1, vI u3, vI ob1]) rfl (pc' := 273) rfl ?_
  refine own_lload X4 hx (hb hby d9_273) rfl (pc' := 275) rfl ?_
  refine own_lload X4 hx (hb hby d9_275) rfl (pc' := 277) rfl ?_
  refine own_lxor X4 hx (hb hby d9_277) (pc' := 278) rfl ?_
  refine own_lstore X4 hx (hb hby d9_278) (l' := #[vR ra, vR rb, vI u2, vI u3, vL ((own_rot (t4.1 + t4.2.1) (32 : Int32)) + ((own_rot (t4.2.2.2 ^^^ (0 : Int64)) (16 : Int32)) ^^^ (t4.2.2.1 + (t4.2.2.2 ^^^ (0 : Int64))))), vS, vL ((own_rot t4.2.1 (13 : Int32)) ^^^ (t4.1 + t4.2.1)), vS, vL (t4.2.2.1 + (t4.2.2.2 ^^^ (0 : Int64))), vS, vL ((own_rot ((own_rot (t4.2.2.2 ^^^ (0 : Int64)) (16 : Int32)) ^^^ (t4.2.2.1 + (t4.2.2.2 ^^^ (0 : Int64)))) (21 : Int32)) ^^^ ((own_rot (t4.1 + t4.2.1) (32 : Int32)) + ((own_rot (t4.2.2.2 ^^^ (0 : Int64)) (16 : Int32)) ^^^ (t4.2.2.1 + (t4.2.2.2 ^^^ (0 : Int64)))))), vS, vI (u3 - u2), vI ((1 : Int32) + (1 : Int32)), vI (4 : Int32), vL (0 : Int64), vS, vI oa1, vI u3, vI ob1]) rfl (pc' := 280) rfl ?_
  refine own_lload X4 hx (hb hby d9_280) rfl (pc' := 282) rfl ?_
  refine own_lload X4 hx (hb hby d9_282) rfl (pc' := 284) rfl ?_
  refine own_ladd X4 hx (hb hby d9_284) (pc' := 285) rfl ?_
  refine own_lstore X4 hx (hb hby d9_285) (l' := #[vR ra, vR rb, vI u2, vI u3, vL ((own_rot (t4.1 + t4.2.1) (32 : Int32)) + ((own_rot (t4.2.2.2 ^^^ (0 : Int64)) (16 : Int32)) ^^^ (t4.2.2.1 + (t4.2.2.2 ^^^ (0 : Int64))))), vS, vL ((own_rot t4.2.1 (13 : Int32)) ^^^ (t4.1 + t4.2.1)), vS, vL ((t4.2.2.1 + (t4.2.2.2 ^^^ (0 : Int64))) + ((own_rot t4.2.1 (13 : Int32)) ^^^ (t4.1 + t4.2.1))), vS, vL ((own_rot ((own_rot (t4.2.2.2 ^^^ (0 : Int64)) (16 : Int32)) ^^^ (t4.2.2.1 + (t4.2.2.2 ^^^ (0 : Int64)))) (21 : Int32)) ^^^ ((own_rot (t4.1 + t4.2.1) (32 : Int32)) + ((own_rot (t4.2.2.2 ^^^ (0 : Int64)) (16 : Int32)) ^^^ (t4.2.2.1 + (t4.2.2.2 ^^^ (0 : Int64)))))), vS, vI (u3 - u2), vI ((1 : Int32) + (1 : Int32)), vI (4 : Int32), vL (0 : Int64), vS, vI oa1, vI u3, vI ob1]) rfl (pc' := 287) rfl ?_
  refine own_lload X4 hx (hb hby d9_287) rfl (pc' := 289) rfl ?_
  refine own_bipush X4 hx (hb hby d9_289) (z := (17 : Int32)) (by decide) (pc' := 291) rfl ?_
  refine own_lshl X4 hx (hb hby d9_291) (pc' := 292) rfl ?_
  refine own_lload X4 hx (hb hby d9_292) rfl (pc' := 294) rfl ?_
  refine own_bipush X4 hx (hb hby d9_294) (z := (47 : Int32)) (by decide) (pc' := 296) rfl ?_
  refine own_lushr X4 hx (hb hby d9_296) (pc' := 297) rfl ?_
  refine own_lor X4 hx (hb hby d9_297) (pc' := 298) rfl ?_
  rw [own_r17]
  refine own_lstore X4 hx (hb hby d9_298) (l' := #[vR ra, vR rb, vI u2, vI u3, vL ((own_rot (t4.1 + t4.2.1) (32 : Int32)) + ((own_rot (t4.2.2.2 ^^^ (0 : Int64)) (16 : Int32)) ^^^ (t4.2.2.1 + (t4.2.2.2 ^^^ (0 : Int64))))), vS, vL (own_rot ((own_rot t4.2.1 (13 : Int32)) ^^^ (t4.1 + t4.2.1)) (17 : Int32)), vS, vL ((t4.2.2.1 + (t4.2.2.2 ^^^ (0 : Int64))) + ((own_rot t4.2.1 (13 : Int32)) ^^^ (t4.1 + t4.2.1))), vS, vL ((own_rot ((own_rot (t4.2.2.2 ^^^ (0 : Int64)) (16 : Int32)) ^^^ (t4.2.2.1 + (t4.2.2.2 ^^^ (0 : Int64)))) (21 : Int32)) ^^^ ((own_rot (t4.1 + t4.2.1) (32 : Int32)) + ((own_rot (t4.2.2.2 ^^^ (0 : Int64)) (16 : Int32)) ^^^ (t4.2.2.1 + (t4.2.2.2 ^^^ (0 : Int64)))))), vS, vI (u3 - u2), vI ((1 : Int32) + (1 : Int32)), vI (4 : Int32), vL (0 : Int64), vS, vI oa1, vI u3, vI ob1]) rfl (pc' := 300) rfl ?_
  refine own_lload X4 hx (hb hby d9_300) rfl (pc' := 302) rfl ?_
  refine own_lload X4 hx (hb hby d9_302) rfl (pc' := 304) rfl ?_
  refine own_lxor X4 hx (hb hby d9_304) (pc' := 305) rfl ?_
  refine own_lstore X4 hx (hb hby d9_305) (l' := #[vR ra, vR rb, vI u2, vI u3, vL ((own_rot (t4.1 + t4.2.1) (32 : Int32)) + ((own_rot (t4.2.2.2 ^^^ (0 : Int64)) (16 : Int32)) ^^^ (t4.2.2.1 + (t4.2.2.2 ^^^ (0 : Int64))))), vS, vL ((own_rot ((own_rot t4.2.1 (13 : Int32)) ^^^ (t4.1 + t4.2.1)) (17 : Int32)) ^^^ ((t4.2.2.1 + (t4.2.2.2 ^^^ (0 : Int64))) + ((own_rot t4.2.1 (13 : Int32)) ^^^ (t4.1 + t4.2.1)))), vS, vL ((t4.2.2.1 + (t4.2.2.2 ^^^ (0 : Int64))) + ((own_rot t4.2.1 (13 : Int32)) ^^^ (t4.1 + t4.2.1))), vS, vL ((own_rot ((own_rot (t4.2.2.2 ^^^ (0 : Int64)) (16 : Int32)) ^^^ (t4.2.2.1 + (t4.2.2.2 ^^^ (0 : Int64)))) (21 : Int32)) ^^^ ((own_rot (t4.1 + t4.2.1) (32 : Int32)) + ((own_rot (t4.2.2.2 ^^^ (0 : Int64)) (16 : Int32)) ^^^ (t4.2.2.1 + (t4.2.2.2 ^^^ (0 : Int64)))))), vS, vI (u3 - u2), vI ((1 : Int32) + (1 : Int32)), vI (4 : Int32), vL (0 : Int64), vS, vI oa1, vI u3, vI ob1]) rfl (pc' := 307) rfl ?_
  refine own_lload X4 hx (hb hby d9_307) rfl (pc' := 309) rfl ?_
  refine own_bipush X4 hx (hb hby d9_309) (z := (32 : Int32)) (by decide) (pc' := 311) rfl ?_
  refine own_lshl X4 hx (hb hby d9_311) (pc' := 312) rfl ?_
  refine own_lload X4 hx (hb hby d9_312) rfl (pc' := 314) rfl ?_
  refine own_bipush X4 hx (hb hby d9_314) (z := (32 : Int32)) (by decide) (pc' := 316) rfl ?_
  refine own_lushr X4 hx (hb hby d9_316) (pc' := 317) rfl ?_
  refine own_lor X4 hx (hb hby d9_317) (pc' := 318) rfl ?_
  rw [own_r32]
  refine own_lstore X4 hx (hb hby d9_318) (l' := #[vR ra, vR rb, vI u2, vI u3, vL ((own_rot (t4.1 + t4.2.1) (32 : Int32)) + ((own_rot (t4.2.2.2 ^^^ (0 : Int64)) (16 : Int32)) ^^^ (t4.2.2.1 + (t4.2.2.2 ^^^ (0 : Int64))))), vS, vL ((own_rot ((own_rot t4.2.1 (13 : Int32)) ^^^ (t4.1 + t4.2.1)) (17 : Int32)) ^^^ ((t4.2.2.1 + (t4.2.2.2 ^^^ (0 : Int64))) + ((own_rot t4.2.1 (13 : Int32)) ^^^ (t4.1 + t4.2.1)))), vS, vL (own_rot ((t4.2.2.1 + (t4.2.2.2 ^^^ (0 : Int64))) + ((own_rot t4.2.1 (13 : Int32)) ^^^ (t4.1 + t4.2.1))) (32 : Int32)), vS, vL ((own_rot ((own_rot (t4.2.2.2 ^^^ (0 : Int64)) (16 : Int32)) ^^^ (t4.2.2.1 + (t4.2.2.2 ^^^ (0 : Int64)))) (21 : Int32)) ^^^ ((own_rot (t4.1 + t4.2.1) (32 : Int32)) + ((own_rot (t4.2.2.2 ^^^ (0 : Int64)) (16 : Int32)) ^^^ (t4.2.2.1 + (t4.2.2.2 ^^^ (0 : Int64)))))), vS, vI (u3 - u2), vI ((1 : Int32) + (1 : Int32)), vI (4 : Int32), vL (0 : Int64), vS, vI oa1, vI u3, vI ob1]) rfl (pc' := 320) rfl ?_
  refine own_lload X4 hx (hb hby d9_320) rfl (pc' := 322) rfl ?_
  refine own_lload X4 hx (hb hby d9_322) rfl (pc' := 324) rfl ?_
  refine own_lxor X4 hx (hb hby d9_324) (pc' := 325) rfl ?_
  refine own_lstore X4 hx (hb hby d9_325) (l' := #[vR ra, vR rb, vI u2, vI u3, vL (((own_rot (t4.1 + t4.2.1) (32 : Int32)) + ((own_rot (t4.2.2.2 ^^^ (0 : Int64)) (16 : Int32)) ^^^ (t4.2.2.1 + (t4.2.2.2 ^^^ (0 : Int64))))) ^^^ (0 : Int64)), vS, vL ((own_rot ((own_rot t4.2.1 (13 : Int32)) ^^^ (t4.1 + t4.2.1)) (17 : Int32)) ^^^ ((t4.2.2.1 + (t4.2.2.2 ^^^ (0 : Int64))) + ((own_rot t4.2.1 (13 : Int32)) ^^^ (t4.1 + t4.2.1)))), vS, vL (own_rot ((t4.2.2.1 + (t4.2.2.2 ^^^ (0 : Int64))) + ((own_rot t4.2.1 (13 : Int32)) ^^^ (t4.1 + t4.2.1))) (32 : Int32)), vS, vL ((own_rot ((own_rot (t4.2.2.2 ^^^ (0 : Int64)) (16 : Int32)) ^^^ (t4.2.2.1 + (t4.2.2.2 ^^^ (0 : Int64)))) (21 : Int32)) ^^^ ((own_rot (t4.1 + t4.2.1) (32 : Int32)) + ((own_rot (t4.2.2.2 ^^^ (0 : Int64)) (16 : Int32)) ^^^ (t4.2.2.1 + (t4.2.2.2 ^^^ (0 : Int64)))))), vS, vI (u3 - u2), vI ((1 : Int32) + (1 : Int32)), vI (4 : Int32), vL (0 : Int64), vS, vI oa1, vI u3, vI ob1]) rfl (pc' := 327) rfl ?_
  refine own_iinc X4 hx (hb hby d9_327) rfl (z := (1 : Int32)) rfl (l' := #[vR ra, vR rb, vI u2, vI u3, vL (((own_rot (t4.1 + t4.2.1) (32 : Int32)) + ((own_rot (t4.2.2.2 ^^^ (0 : Int64)) (16 : Int32)) ^^^ (t4.2.2.1 + (t4.2.2.2 ^^^ (0 : Int64))))) ^^^ (0 : Int64)), vS, vL ((own_rot ((own_rot t4.2.1 (13 : Int32)) ^^^ (t4.1 + t4.2.1)) (17 : Int32)) ^^^ ((t4.2.2.1 + (t4.2.2.2 ^^^ (0 : Int64))) + ((own_rot t4.2.1 (13 : Int32)) ^^^ (t4.1 + t4.2.1)))), vS, vL (own_rot ((t4.2.2.1 + (t4.2.2.2 ^^^ (0 : Int64))) + ((own_rot t4.2.1 (13 : Int32)) ^^^ (t4.1 + t4.2.1))) (32 : Int32)), vS, vL ((own_rot ((own_rot (t4.2.2.2 ^^^ (0 : Int64)) (16 : Int32)) ^^^ (t4.2.2.1 + (t4.2.2.2 ^^^ (0 : Int64)))) (21 : Int32)) ^^^ ((own_rot (t4.1 + t4.2.1) (32 : Int32)) + ((own_rot (t4.2.2.2 ^^^ (0 : Int64)) (16 : Int32)) ^^^ (t4.2.2.1 + (t4.2.2.2 ^^^ (0 : Int64)))))), vS, vI (u3 - u2), vI ((1 : Int32) + (1 : Int32)), vI ((4 : Int32) + (1 : Int32)), vL (0 : Int64), vS, vI oa1, vI u3, vI ob1]) rfl (pc' := 330) rfl ?_
  refine own_goto X4 hx (hb hby d9_330) (by decide) (pc' := 57) rfl ?_
  show own_G p e below s _ _ _ (T4.setTop (mkF m 57 #[vR ra, vR rb, vI u2, vI u3, vL ((own_comp (0 : Int64) t4).1), vS, vL ((own_comp (0 : Int64) t4).2.1), vS, vL ((own_comp (0 : Int64) t4).2.2.1), vS, vL ((own_comp (0 : Int64) t4).2.2.2), vS, vI (u3 - u2), vI ((1 : Int32) + (1 : Int32)), vI (5 : Int32), vL (0 : Int64), vS, vI oa1, vI u3, vI ob1] []))
  generalize ht5 : (own_comp (0 : Int64) t4) = t5
  refine own_iload X4 hx (hb hby d9_57) rfl (pc' := 59) rfl ?_
  refine own_iload X4 hx (hb hby d9_59) rfl (pc' := 61) rfl ?_
  refine own_iconst X4 hx (hb hby d9_61) (z := (3 : Int32)) rfl (pc' := 62) rfl ?_
  refine own_iadd X4 hx (hb hby d9_62) (pc' := 63) rfl ?_
  refine own_icmpT X4 hx (hb hby d9_63) (by decide) (by decide) (pc' := 333) rfl ?_
  refine own_lload X4 hx (hb hby d9_333) rfl (pc' := 335) rfl ?_
  refine own_lload X4 hx (hb hby d9_335) rfl (pc' := 337) rfl ?_
  refine own_lxor X4 hx (hb hby d9_337) (pc' := 338) rfl ?_
  refine own_lload X4 hx (hb hby d9_338) rfl (pc' := 340) rfl ?_
  refine own_lxor X4 hx (hb hby d9_340) (pc' := 341) rfl ?_
  refine own_lload X4 hx (hb hby d9_341) rfl (pc' := 343) rfl ?_
  refine own_lxor X4 hx (hb hby d9_343) (pc' := 344) rfl ?_
  exact own_retL X4 hx hret hlk (hb hby d9_344) ⟨(by subst ht5 ht4 ht3 ht2 ht1 ht0 hM0 hM1; rfl), N0, e4⟩ (by decide) (by decide)
theorem oef_rm_hash2 (m : MethodId) (ra : Addr) (rb : Addr) (u2 : Int32) (u3 : Int32) : entryFrame m #[(.ref ra), (.ref rb), (.int u2), (.int u3)] 20 = mkF m 0 #[vR ra, vR rb, vI u2, vI u3, vU, vU, vU, vU, vU, vU, vU, vU, vU, vU, vU, vU, vU, vU, vU, vU] [] := by first | (simp [entryFrame, mkF, argsToLocals, Value.category]; done) | rfl
set_option maxRecDepth 65536 in
set_option maxHeartbeats 40000000 in
theorem rm_hash2 (l : Launch) (Z : State) (a0 : Array Value) (hw : ∀ d ∈ tables_1, d.before a0 Z = true) (ra : Addr) (rb : Addr) (u2 : Int32) (u3 : Int32) (q0 : Int64) (q1 : Int64) (gg : Nat → Int32) (h0 : Heap) (n0 : Nat) (Z0 : n0 ≤ h0.size) (P0 : Fld Z h0 ra "com/example/structlane/structlane/header/SipHash" "key0" "J" (.long q0)) (P1 : Fld Z h0 ra "com/example/structlane/structlane/header/SipHash" "key1" "J" (.long q1)) (P2 : own_AI Z h0 rb .byte (24 : Int32) gg) (hs : 0 ≤ u2.toInt) (hE : u2.toInt ≤ u3.toInt ∧ u3.toInt ≤ 24) (hD : ((u3 - u2) / (8 : Int32)) = (2 : Int32)) :
    own_M l Z (⟨"com/example/structlane/structlane/header/SipHash", "hash", "([BII)J"⟩ : MethodName) prog_186_method_3_code 20 (some .long) [] ({ frames := 0, cells := 0, slots := 0, locals := 0 } : Room) #[(.ref ra), (.ref rb), (.int u2), (.int u3)] h0 (fun v h L => v = some (.long (own_x4 (own_comp (0 : Int64) (own_comp (0 : Int64) (own_comp (0 : Int64) (own_ff (own_comp ((own_le8 gg (u2 + ((2 : Int32) * (8 : Int32))) (u3 - (u2 + ((2 : Int32) * (8 : Int32))))) ||| ((u3 - u2).toInt64 <<< ((56 : Int32) &&& 0x3f).toInt64)) (own_comp (own_le8 gg (u2 + ((1 : Int32) * (8 : Int32))) (8 : Int32)) (own_comp (own_le8 gg (u2 + ((0 : Int32) * (8 : Int32))) (8 : Int32)) ((q0 ^^^ (8317987319222330741 : Int64)), (q1 ^^^ (7237128888997146477 : Int64)), (q0 ^^^ (7816392313619706465 : Int64)), (q1 ^^^ (8387220255154660723 : Int64)))))))))))) ∧ Fr n0 L ∧ (h = h0)) 0 0 := by
  refine own_body (plainFor_of_name opn_com_example_structlane_structlane_header_SipHash) ?_
  intro p e s m below meth c s1 hx hby hml hown hnm hret hlk hZ X0 e0
  rw [oef_rm_hash2 m ra rb u2 u3]
  have N0 := Fr.nil n0
  have hu := rng32 u2
  have hlen := own_sub u3 u2 ⟨hs, hE.1⟩
  have hB := own_blk (by omega) hD
  simp only [Int32.reduceToInt] at hB
  refine own_aloadN X0 hx (hb hby d9_0) rfl rfl (pc' := 1) rfl ?_
  refine own_getF X0 hx hZ hown (ow_36 hw) e0 P0 (hb hby d9_1) (pc' := 4) rfl ?_
  intro T1 X1 e1
  refine own_ldc2 X1 hx hZ hown (ow_45 hw) (hb hby d9_4) (pc' := 7) rfl ?_
  refine own_lxor X1 hx (hb hby d9_7) (pc' := 8) rfl ?_
  refine own_lstore X1 hx (hb hby d9_8) (l' := #[vR ra, vR rb, vI u2, vI u3, vL (q0 ^^^ (8317987319222330741 : Int64)), vS, vU, vU, vU, vU, vU, vU, vU, vU, vU, vU, vU, vU, vU, vU]) rfl (pc' := 10) rfl ?_
  refine own_aloadN X1 hx (hb hby d9_10) rfl rfl (pc' := 11) rfl ?_
  refine own_getF X1 hx hZ hown (ow_38 hw) e1 P1 (hb hby d9_11) (pc' := 14) rfl ?_
  intro T2 X2 e2
  refine own_ldc2 X2 hx hZ hown (ow_46 hw) (hb hby d9_14) (pc' := 17) rfl ?_
  refine own_lxor X2 hx (hb hby d9_17) (pc' := 18) rfl ?_
  refine own_lstore X2 hx (hb hby d9_18) (l' := #[vR ra, vR rb, vI u2, vI u3, vL (q0 ^^^ (8317987319222330741 : Int64)), vS, vL (q1 ^^^ (7237128888997146477 : Int64)), vS, vU, vU, vU, vU, vU, vU, vU, vU, vU, vU, vU, vU]) rfl (pc' := 20) rfl ?_
  refine own_aloadN X2 hx (hb hby d9_20) rfl rfl (pc' := 21) rfl ?_
  refine own_getF X2 hx hZ hown (ow_36 hw) e2 P0 (hb hby d9_21) (pc' := 24) rfl ?_
  intro T3 X3 e3
  refine own_ldc2 X3 hx hZ hown (ow_47 hw) (hb hby d9_24) (pc' := 27) rfl ?_
  refine own_lxor X3 hx (hb hby d9_27) (pc' := 28) rfl ?_
  refine own_lstore X3 hx (hb hby d9_28) (l' := #[vR ra, vR rb, vI u2, vI u3, vL (q0 ^^^ (8317987319222330741 : Int64)), vS, vL (q1 ^^^ (7237128888997146477 : Int64)), vS, vL (q0 ^^^ (7816392313619706465 : Int64)), vS, vU, vU, vU, vU, vU, vU, vU, vU, vU, vU]) rfl (pc' := 30) rfl ?_
  refine own_aloadN X3 hx (hb hby d9_30) rfl rfl (pc' := 31) rfl ?_
  refine own_getF X3 hx hZ hown (ow_38 hw) e3 P1 (hb hby d9_31) (pc' := 34) rfl ?_
  intro T4 X4 e4
  refine own_ldc2 X4 hx hZ hown (ow_48 hw) (hb hby d9_34) (pc' := 37) rfl ?_
  refine own_lxor X4 hx (hb hby d9_37) (pc' := 38) rfl ?_
  refine own_lstore X4 hx (hb hby d9_38) (l' := #[vR ra, vR rb, vI u2, vI u3, vL (q0 ^^^ (8317987319222330741 : Int64)), vS, vL (q1 ^^^ (7237128888997146477 : Int64)), vS, vL (q0 ^^^ (7816392313619706465 : Int64)), vS, vL (q1 ^^^ (8387220255154660723 : Int64)), vS, vU, vU, vU, vU, vU, vU, vU, vU]) rfl (pc' := 40) rfl ?_
  refine own_iloadN X4 hx (hb hby d9_40) rfl (pc' := 41) rfl ?_
  refine own_iloadN X4 hx (hb hby d9_41) rfl (pc' := 42) rfl ?_
  refine own_isub X4 hx (hb hby d9_42) (pc' := 43) rfl ?_
  refine own_istore X4 hx (hb hby d9_43) (l' := #[vR ra, vR rb, vI u2, vI u3, vL (q0 ^^^ (8317987319222330741 : Int64)), vS, vL (q1 ^^^ (7237128888997146477 : Int64)), vS, vL (q0 ^^^ (7816392313619706465 : Int64)), vS, vL (q1 ^^^ (8387220255154660723 : Int64)), vS, vI (u3 - u2), vU, vU, vU, vU, vU, vU, vU]) rfl (pc' := 45) rfl ?_
  refine own_iload X4 hx (hb hby d9_45) rfl (pc' := 47) rfl ?_
  refine own_bipush X4 hx (hb hby d9_47) (z := (8 : Int32)) (by decide) (pc' := 49) rfl ?_
  refine own_idiv X4 hx (hb hby d9_49) (by decide) (pc' := 50) rfl ?_
  rw [hD]
  refine own_iconst X4 hx (hb hby d9_50) (z := (1 : Int32)) rfl (pc' := 51) rfl ?_
  refine own_iadd X4 hx (hb hby d9_51) (pc' := 52) rfl ?_
  refine own_istore X4 hx (hb hby d9_52) (l' := #[vR ra, vR rb, vI u2, vI u3, vL (q0 ^^^ (8317987319222330741 : Int64)), vS, vL (q1 ^^^ (7237128888997146477 : Int64)), vS, vL (q0 ^^^ (7816392313619706465 : Int64)), vS, vL (q1 ^^^ (8387220255154660723 : Int64)), vS, vI (u3 - u2), vI ((2 : Int32) + (1 : Int32)), vU, vU, vU, vU, vU, vU]) rfl (pc' := 54) rfl ?_
  refine own_iconst X4 hx (hb hby d9_54) (z := (0 : Int32)) rfl (pc' := 55) rfl ?_
  refine own_istore X4 hx (hb hby d9_55) (l' := #[vR ra, vR rb, vI u2, vI u3, vL (q0 ^^^ (8317987319222330741 : Int64)), vS, vL (q1 ^^^ (7237128888997146477 : Int64)), vS, vL (q0 ^^^ (7816392313619706465 : Int64)), vS, vL (q1 ^^^ (8387220255154660723 : Int64)), vS, vI (u3 - u2), vI ((2 : Int32) + (1 : Int32)), vI (0 : Int32), vU, vU, vU, vU, vU]) rfl (pc' := 57) rfl ?_
  show own_G p e below s _ _ _ (T4.setTop (mkF m 57 #[vR ra, vR rb, vI u2, vI u3, vL ((((q0 ^^^ (8317987319222330741 : Int64)), (q1 ^^^ (7237128888997146477 : Int64)), (q0 ^^^ (7816392313619706465 : Int64)), (q1 ^^^ (8387220255154660723 : Int64))) : own_S).1), vS, vL ((((q0 ^^^ (8317987319222330741 : Int64)), (q1 ^^^ (7237128888997146477 : Int64)), (q0 ^^^ (7816392313619706465 : Int64)), (q1 ^^^ (8387220255154660723 : Int64))) : own_S).2.1), vS, vL ((((q0 ^^^ (8317987319222330741 : Int64)), (q1 ^^^ (7237128888997146477 : Int64)), (q0 ^^^ (7816392313619706465 : Int64)), (q1 ^^^ (8387220255154660723 : Int64))) : own_S).2.2.1), vS, vL ((((q0 ^^^ (8317987319222330741 : Int64)), (q1 ^^^ (7237128888997146477 : Int64)), (q0 ^^^ (7816392313619706465 : Int64)), (q1 ^^^ (8387220255154660723 : Int64))) : own_S).2.2.2), vS, vI (u3 - u2), vI ((2 : Int32) + (1 : Int32)), vI (0 : Int32), vU, vU, vU, vU, vU] []))
  generalize ht0 : (((q0 ^^^ (8317987319222330741 : Int64)), (q1 ^^^ (7237128888997146477 : Int64)), (q0 ^^^ (7816392313619706465 : Int64)), (q1 ^^^ (8387220255154660723 : Int64))) : own_S) = t0
  refine own_iload X4 hx (hb hby d9_57) rfl (pc' := 59) rfl ?_
  refine own_iload X4 hx (hb hby d9_59) rfl (pc' := 61) rfl ?_
  refine own_iconst X4 hx (hb hby d9_61) (z := (3 : Int32)) rfl (pc' := 62) rfl ?_
  refine own_iadd X4 hx (hb hby d9_62) (pc' := 63) rfl ?_
  refine own_icmpF X4 hx (hb hby d9_63) (by decide) (pc' := 66) rfl ?_
  refine own_lconst X4 hx (hb hby d9_66) (z := (0 : Int64)) (by decide) (pc' := 67) rfl ?_
  refine own_lstore X4 hx (hb hby d9_67) (l' := #[vR ra, vR rb, vI u2, vI u3, vL t0.1, vS, vL t0.2.1, vS, vL t0.2.2.1, vS, vL t0.2.2.2, vS, vI (u3 - u2), vI ((2 : Int32) + (1 : Int32)), vI (0 : Int32), vL (0 : Int64), vS, vU, vU, vU]) rfl (pc' := 69) rfl ?_
  refine own_iload X4 hx (hb hby d9_69) rfl (pc' := 71) rfl ?_
  refine own_iload X4 hx (hb hby d9_71) rfl (pc' := 73) rfl ?_
  refine own_icmpF X4 hx (hb hby d9_73) (by decide) (pc' := 76) rfl ?_
  refine own_iloadN X4 hx (hb hby d9_76) rfl (pc' := 77) rfl ?_
  refine own_iload X4 hx (hb hby d9_77) rfl (pc' := 79) rfl ?_
  refine own_bipush X4 hx (hb hby d9_79) (z := (8 : Int32)) (by decide) (pc' := 81) rfl ?_
  refine own_imul X4 hx (hb hby d9_81) (pc' := 82) rfl ?_
  refine own_iadd X4 hx (hb hby d9_82) (pc' := 83) rfl ?_
  refine own_istore X4 hx (hb hby d9_83) (l' := #[vR ra, vR rb, vI u2, vI u3, vL t0.1, vS, vL t0.2.1, vS, vL t0.2.2.1, vS, vL t0.2.2.2, vS, vI (u3 - u2), vI ((2 : Int32) + (1 : Int32)), vI (0 : Int32), vL (0 : Int64), vS, vI (u2 + ((0 : Int32) * (8 : Int32))), vU, vU]) rfl (pc' := 85) rfl ?_
  have ho0 := own_offk u2 (0 : Int32) ⟨hs, by omega⟩ (by decide)
  rw [show ((0 : Int32)).toInt = 0 from by decide] at ho0
  have hd0 := own_sub u3 (u2 + ((0 : Int32) * (8 : Int32))) (by omega)
  have hk0 : ¬ ((u3 - (u2 + ((0 : Int32) * (8 : Int32))))) < (8 : Int32) := by simp only [Int32.lt_iff_toInt_lt, Int32.reduceToInt]; omega
  refine own_iloadN X4 hx (hb hby d9_85) rfl (pc' := 86) rfl ?_
  refine own_iload X4 hx (hb hby d9_86) rfl (pc' := 88) rfl ?_
  refine own_isub X4 hx (hb hby d9_88) (pc' := 89) rfl ?_
  refine own_bipush X4 hx (hb hby d9_89) (z := (8 : Int32)) (by decide) (pc' := 91) rfl ?_
  refine own_icmpT X4 hx (hb hby d9_91) (flt hk0).2.1 (by decide) (pc' := 98) rfl ?_
  refine own_iload X4 hx (hb hby d9_98) rfl (pc' := 100) rfl ?_
  refine own_bipush X4 hx (hb hby d9_100) (z := (8 : Int32)) (by decide) (pc' := 102) rfl ?_
  refine own_iadd X4 hx (hb hby d9_102) (pc' := 103) rfl ?_
  refine own_istore X4 hx (hb hby d9_103) (l' := #[vR ra, vR rb, vI u2, vI u3, vL t0.1, vS, vL t0.2.1, vS, vL t0.2.2.1, vS, vL t0.2.2.2, vS, vI (u3 - u2), vI ((2 : Int32) + (1 : Int32)), vI (0 : Int32), vL (0 : Int64), vS, vI (u2 + ((0 : Int32) * (8 : Int32))), vI ((u2 + ((0 : Int32) * (8 : Int32))) + (8 : Int32)), vU]) rfl (pc' := 105) rfl ?_
  refine own_iload X4 hx (hb hby d9_105) rfl (pc' := 107) rfl ?_
  refine own_iconst X4 hx (hb hby d9_107) (z := (1 : Int32)) rfl (pc' := 108) rfl ?_
  refine own_isub X4 hx (hb hby d9_108) (pc' := 109) rfl ?_
  refine own_istore X4 hx (hb hby d9_109) (l' := #[vR ra, vR rb, vI u2, vI u3, vL t0.1, vS, vL t0.2.1, vS, vL t0.2.2.1, vS, vL t0.2.2.2, vS, vI (u3 - u2), vI ((2 : Int32) + (1 : Int32)), vI (0 : Int32), vL (0 : Int64), vS, vI (u2 + ((0 : Int32) * (8 : Int32))), vI ((u2 + ((0 : Int32) * (8 : Int32))) + (8 : Int32)), vI (((u2 + ((0 : Int32) * (8 : Int32))) + (8 : Int32)) - (1 : Int32))]) rfl (pc' := 111) rfl ?_
  have hl0 := own_addk (u2 + ((0 : Int32) * (8 : Int32))) (8 : Int32) (by omega) (by decide)
  simp only [Int32.reduceToInt] at hl0
  have hm0 : (((u2 + ((0 : Int32) * (8 : Int32))) + (8 : Int32))).toInt = ((u2 + ((0 : Int32) * (8 : Int32)))).toInt + (8 : Nat) := by omega
  refine own_inner X4 hx hby hZ e4 ra rb gg P2 u2 u3 (u3 - u2) ((2 : Int32) + (1 : Int32)) (0 : Int32) (u2 + ((0 : Int32) * (8 : Int32))) ((u2 + ((0 : Int32) * (8 : Int32))) + (8 : Int32)) t0.1 t0.2.1 t0.2.2.1 t0.2.2.2 (by omega) 8 (((u2 + ((0 : Int32) * (8 : Int32))) + (8 : Int32)) - (1 : Int32)) 0 (own_j ((u2 + ((0 : Int32) * (8 : Int32))) + (8 : Int32)) (u2 + ((0 : Int32) * (8 : Int32))) 8 hm0 (by omega) (by omega)) (by omega) ?_
  rw [Nat.add_zero, own_Hle gg (u2 + ((0 : Int32) * (8 : Int32))) (8 : Int32) 8 (by omega) rfl]
  refine own_iload X4 hx (hb hby d9_141) rfl (pc' := 143) rfl ?_
  refine own_iload X4 hx (hb hby d9_143) rfl (pc' := 145) rfl ?_
  refine own_iconst X4 hx (hb hby d9_145) (z := (1 : Int32)) rfl (pc' := 146) rfl ?_
  refine own_isub X4 hx (hb hby d9_146) (pc' := 147) rfl ?_
  refine own_icmpT X4 hx (hb hby d9_147) (by decide) (by decide) (pc' := 161) rfl ?_
  refine own_goto X4 hx (hb hby d9_161) (by decide) (pc' := 179) rfl ?_
  generalize hM0 : (own_le8 gg (u2 + ((0 : Int32) * (8 : Int32))) (8 : Int32)) = m0
  generalize ((u2 + ((0 : Int32) * (8 : Int32))) + (-1 : Int32)) = ob0
  generalize ((u2 + ((0 : Int32) * (8 : Int32))) + (8 : Int32)) = oc0
  generalize (u2 + ((0 : Int32) * (8 : Int32))) = oa0
  refine own_lload X4 hx (hb hby d9_179) rfl (pc' := 181) rfl ?_
  refine own_lload X4 hx (hb hby d9_181) rfl (pc' := 183) rfl ?_
  refine own_lxor X4 hx (hb hby d9_183) (pc' := 184) rfl ?_
  refine own_lstore X4 hx (hb hby d9_184) (l' := #[vR ra, vR rb, vI u2, vI u3, vL t0.1, vS, vL t0.2.1, vS, vL t0.2.2.1, vS, vL (t0.2.2.2 ^^^ m0), vS, vI (u3 - u2), vI ((2 : Int32) + (1 : Int32)), vI (0 : Int32), vL m0, vS, vI oa0, vI oc0, vI ob0]) rfl (pc' := 186) rfl ?_
  refine own_lload X4 hx (hb hby d9_186) rfl (pc' := 188) rfl ?_
  refine own_lload X4 hx (hb hby d9_188) rfl (pc' := 190) rfl ?_
  refine own_ladd X4 hx (hb hby d9_190) (pc' := 191) rfl ?_
  refine own_lstore X4 hx (hb hby d9_191) (l' := #[vR ra, vR rb, vI u2, vI u3, vL (t0.1 + t0.2.1), vS, vL t0.2.1, vS, vL t0.2.2.1, vS, vL (t0.2.2.2 ^^^ m0), vS, vI (u3 - u2), vI ((2 : Int32) + (1 : Int32)), vI (0 : Int32), vL m0, vS, vI oa0, vI oc0, vI ob0]) rfl (pc' := 193) rfl ?_
  refine own_lload X4 hx (hb hby d9_193) rfl (pc' := 195) rfl ?_
  refine own_bipush X4 hx (hb hby d9_195) (z := (13 : Int32)) (by decide) (pc' := 197) rfl ?_
  refine own_lshl X4 hx (hb hby d9_197) (pc' := 198) rfl ?_
  refine own_lload X4 hx (hb hby d9_198) rfl (pc' := 200) rfl ?_
  refine own_bipush X4 hx (hb hby d9_200) (z := (51 : Int32)) (by decide) (pc' := 202) rfl ?_
  refine own_lushr X4 hx (hb hby d9_202) (pc' := 203) rfl ?_
  refine own_lor X4 hx (hb hby d9_203) (pc' := 204) rfl ?_
  rw [own_r13]
  refine own_lstore X4 hx (hb hby d9_204) (l' := #[vR ra, vR rb, vI u2, vI u3, vL (t0.1 + t0.2.1), vS, vL (own_rot t0.2.1 (13 : Int32)), vS, vL t0.2.2.1, vS, vL (t0.2.2.2 ^^^ m0), vS, vI (u3 - u2), vI ((2 : Int32) + (1 : Int32)), vI (0 : Int32), vL m0, vS, vI oa0, vI oc0, vI ob0]) rfl (pc' := 206) rfl ?_
  refine own_lload X4 hx (hb hby d9_206) rfl (pc' := 208) rfl ?_
  refine own_lload X4 hx (hb hby d9_208) rfl (pc' := 210) rfl ?_
  refine own_lxor X4 hx (hb hby d9_210) (pc' := 211) rfl ?_
  refine own_lstore X4 hx (hb hby d9_211) (l' := #[vR ra, vR rb, vI u2, vI u3, vL (t0.1 + t0.2.1), vS, vL ((own_rot t0.2.1 (13 : Int32)) ^^^ (t0.1 + t0.2.1)), vS, vL t0.2.2.1, vS, vL (t0.2.2.2 ^^^ m0), vS, vI (u3 - u2), vI ((2 : Int32) + (1 : Int32)), vI (0 : Int32), vL m0, vS, vI oa0, vI oc0, vI ob0]) rfl (pc' := 213) rfl ?_
  refine own_lload X4 hx (hb hby d9_213) rfl (pc' := 215) rfl ?_
  refine own_bipush X4 hx (hb hby d9_215) (z := (32 : Int32)) (by decide) (pc' := 217) rfl ?_
  refine own_lshl X4 hx (hb hby d9_217) (pc' := 218) rfl ?_
  refine own_lload X4 hx (hb hby d9_218) rfl (pc' := 220) rfl ?_
  refine own_bipush X4 hx (hb hby d9_220) (z := (32 : Int32)) (by decide) (pc' := 222) rfl ?_
  refine own_lushr X4 hx (hb hby d9_222) (pc' := 223) rfl ?_
  refine own_lor X4 hx (hb hby d9_223) (pc' := 224) rfl ?_
  rw [own_r32]
  refine own_lstore X4 hx (hb hby d9_224) (l' := #[vR ra, vR rb, vI u2, vI u3, vL (own_rot (t0.1 + t0.2.1) (32 : Int32)), vS, vL ((own_rot t0.2.1 (13 : Int32)) ^^^ (t0.1 + t0.2.1)), vS, vL t0.2.2.1, vS, vL (t0.2.2.2 ^^^ m0), vS, vI (u3 - u2), vI ((2 : Int32) + (1 : Int32)), vI (0 : Int32), vL m0, vS, vI oa0, vI oc0, vI ob0]) rfl (pc' := 226) rfl ?_
  refine own_lload X4 hx (hb hby d9_226) rfl (pc' := 228) rfl ?_
  refine own_lload X4 hx (hb hby d9_228) rfl (pc' := 230) rfl ?_
  refine own_ladd X4 hx (hb hby d9_230) (pc' := 231) rfl ?_
  refine own_lstore X4 hx (hb hby d9_231) (l' := #[vR ra, vR rb, vI u2, vI u3, vL (own_rot (t0.1 + t0.2.1) (32 : Int32)), vS, vL ((own_rot t0.2.1 (13 : Int32)) ^^^ (t0.1 + t0.2.1)), vS, vL (t0.2.2.1 + (t0.2.2.2 ^^^ m0)), vS, vL (t0.2.2.2 ^^^ m0), vS, vI (u3 - u2), vI ((2 : Int32) + (1 : Int32)), vI (0 : Int32), vL m0, vS, vI oa0, vI oc0, vI ob0]) rfl (pc' := 233) rfl ?_
  refine own_lload X4 hx (hb hby d9_233) rfl (pc' := 235) rfl ?_
  refine own_bipush X4 hx (hb hby d9_235) (z := (16 : Int32)) (by decide) (pc' := 237) rfl ?_
  refine own_lshl X4 hx (hb hby d9_237) (pc' := 238) rfl ?_
  refine own_lload X4 hx (hb hby d9_238) rfl (pc' := 240) rfl ?_
  refine own_bipush X4 hx (hb hby d9_240) (z := (48 : Int32)) (by decide) (pc' := 242) rfl ?_
  refine own_lushr X4 hx (hb hby d9_242) (pc' := 243) rfl ?_
  refine own_lor X4 hx (hb hby d9_243) (pc' := 244) rfl ?_
  rw [own_r16]
  refine own_lstore X4 hx (hb hby d9_244) (l' := #[vR ra, vR rb, vI u2, vI u3, vL (own_rot (t0.1 + t0.2.1) (32 : Int32)), vS, vL ((own_rot t0.2.1 (13 : Int32)) ^^^ (t0.1 + t0.2.1)), vS, vL (t0.2.2.1 + (t0.2.2.2 ^^^ m0)), vS, vL (own_rot (t0.2.2.2 ^^^ m0) (16 : Int32)), vS, vI (u3 - u2), vI ((2 : Int32) + (1 : Int32)), vI (0 : Int32), vL m0, vS, vI oa0, vI oc0, vI ob0]) rfl (pc' := 246) rfl ?_
  refine own_lload X4 hx (hb hby d9_246) rfl (pc' := 248) rfl ?_
  refine own_lload X4 hx (hb hby d9_248) rfl (pc' := 250) rfl ?_
  refine own_lxor X4 hx (hb hby d9_250) (pc' := 251) rfl ?_
  refine own_lstore X4 hx (hb hby d9_251) (l' := #[vR ra, vR rb, vI u2, vI u3, vL (own_rot (t0.1 + t0.2.1) (32 : Int32)), vS, vL ((own_rot t0.2.1 (13 : Int32)) ^^^ (t0.1 + t0.2.1)), vS, vL (t0.2.2.1 + (t0.2.2.2 ^^^ m0)), vS, vL ((own_rot (t0.2.2.2 ^^^ m0) (16 : Int32)) ^^^ (t0.2.2.1 + (t0.2.2.2 ^^^ m0))), vS, vI (u3 - u2), vI ((2 : Int32) + (1 : Int32)), vI (0 : Int32), vL m0, vS, vI oa0, vI oc0, vI ob0]) rfl (pc' := 253) rfl ?_
  refine own_lload X4 hx (hb hby d9_253) rfl (pc' := 255) rfl ?_
  refine own_lload X4 hx (hb hby d9_255) rfl (pc' := 257) rfl ?_
  refine own_ladd X4 hx (hb hby d9_257) (pc' := 258) rfl ?_
  refine own_lstore X4 hx (hb hby d9_258) (l' := #[vR ra, vR rb, vI u2, vI u3, vL ((own_rot (t0.1 + t0.2.1) (32 : Int32)) + ((own_rot (t0.2.2.2 ^^^ m0) (16 : Int32)) ^^^ (t0.2.2.1 + (t0.2.2.2 ^^^ m0)))), vS, vL ((own_rot t0.2.1 (13 : Int32)) ^^^ (t0.1 + t0.2.1)), vS, vL (t0.2.2.1 + (t0.2.2.2 ^^^ m0)), vS, vL ((own_rot (t0.2.2.2 ^^^ m0) (16 : Int32)) ^^^ (t0.2.2.1 + (t0.2.2.2 ^^^ m0))), vS, vI (u3 - u2), vI ((2 : Int32) + (1 : Int32)), vI (0 : Int32), vL m0, vS, vI oa0, vI oc0, vI ob0]) rfl (pc' := 260) rfl ?_
  refine own_lload X4 hx (hb hby d9_260) rfl (pc' := 262) rfl ?_
  refine own_bipush X4 hx (hb hby d9_262) (z := (21 : Int32)) (by decide) (pc' := 264) rfl ?_
  refine own_lshl X4 hx (hb hby d9_264) (pc' := 265) rfl ?_
  refine own_lload X4 hx (hb hby d9_265) rfl (pc' := 267) rfl ?_
  refine own_bipush X4 hx (hb hby d9_267) (z := (43 : Int32)) (by decide) (pc' := 269) rfl ?_
  refine own_lushr X4 hx (hb hby d9_269) (pc' := 270) rfl ?_
  refine own_lor X4 hx (hb hby d9_270) (pc' := 271) rfl ?_
  rw [own_r21]
  refine own_lstore X4 hx (hb hby d9_271) (l' := #[vR ra, vR rb, vI u2, vI u3, vL ((own_rot (t0.1 + t0.2.1) (32 : Int32)) + ((own_rot (t0.2.2.2 ^^^ m0) (16 : Int32)) ^^^ (t0.2.2.1 + (t0.2.2.2 ^^^ m0)))), vS, vL ((own_rot t0.2.1 (13 : Int32)) ^^^ (t0.1 + t0.2.1)), vS, vL (t0.2.2.1 + (t0.2.2.2 ^^^ m0)), vS, vL (own_rot ((own_rot (t0.2.2.2 ^^^ m0) (16 : Int32)) ^^^ (t0.2.2.1 + (t0.2.2.2 ^^^ m0))) (21 : Int32)), vS, vI (u3 - u2), vI ((2 : Int32) + (1 : Int32)), vI (0 : Int32), vL m0, vS, vI oa0, vI oc0, vI ob0]) rfl (pc' := 273) rfl ?_
  refine own_lload X4 hx (hb hby d9_273) rfl (pc' := 275) rfl ?_
  refine own_lload X4 hx (hb hby d9_275) rfl (pc' := 277) rfl ?_
  refine own_lxor X4 hx (hb hby d9_277) (pc' := 278) rfl ?_
  refine own_lstore X4 hx (hb hby d9_278) (l' := #[vR ra, vR rb, vI u2, vI u3, vL ((own_rot (t0.1 + t0.2.1) (32 : Int32)) + ((own_rot (t0.2.2.2 ^^^ m0) (16 : Int32)) ^^^ (t0.2.2.1 + (t0.2.2.2 ^^^ m0)))), vS, vL ((own_rot t0.2.1 (13 : Int32)) ^^^ (t0.1 + t0.2.1)), vS, vL (t0.2.2.1 + (t0.2.2.2 ^^^ m0)), vS, vL ((own_rot ((own_rot (t0.2.2.2 ^^^ m0) (16 : Int32)) ^^^ (t0.2.2.1 + (t0.2.2.2 ^^^ m0))) (21 : Int32)) ^^^ ((own_rot (t0.1 + t0.2.1) (32 : Int32)) + ((own_rot (t0.2.2.2 ^^^ m0) (16 : Int32)) ^^^ (t0.2.2.1 + (t0.2.2.2 ^^^ m0))))), vS, vI (u3 - u2), vI ((2 : Int32) + (1 : Int32)), vI (0 : Int32), vL m0, vS, vI oa0, vI oc0, vI ob0]) rfl (pc' := 280) rfl ?_
  refine own_lload X4 hx (hb hby d9_280) rfl (pc' := 282) rfl ?_
  refine own_lload X4 hx (hb hby d9_282) rfl (pc' := 284) rfl ?_
  refine own_ladd X4 hx (hb hby d9_284) (pc' := 285) rfl ?_
  refine own_lstore X4 hx (hb hby d9_285) (l' := #[vR ra, vR rb, vI u2, vI u3, vL ((own_rot (t0.1 + t0.2.1) (32 : Int32)) + ((own_rot (t0.2.2.2 ^^^ m0) (16 : Int32)) ^^^ (t0.2.2.1 + (t0.2.2.2 ^^^ m0)))), vS, vL ((own_rot t0.2.1 (13 : Int32)) ^^^ (t0.1 + t0.2.1)), vS, vL ((t0.2.2.1 + (t0.2.2.2 ^^^ m0)) + ((own_rot t0.2.1 (13 : Int32)) ^^^ (t0.1 + t0.2.1))), vS, vL ((own_rot ((own_rot (t0.2.2.2 ^^^ m0) (16 : Int32)) ^^^ (t0.2.2.1 + (t0.2.2.2 ^^^ m0))) (21 : Int32)) ^^^ ((own_rot (t0.1 + t0.2.1) (32 : Int32)) + ((own_rot (t0.2.2.2 ^^^ m0) (16 : Int32)) ^^^ (t0.2.2.1 + (t0.2.2.2 ^^^ m0))))), vS, vI (u3 - u2), vI ((2 : Int32) + (1 : Int32)), vI (0 : Int32), vL m0, vS, vI oa0, vI oc0, vI ob0]) rfl (pc' := 287) rfl ?_
  refine own_lload X4 hx (hb hby d9_287) rfl (pc' := 289) rfl ?_
  refine own_bipush X4 hx (hb hby d9_289) (z := (17 : Int32)) (by decide) (pc' := 291) rfl ?_
  refine own_lshl X4 hx (hb hby d9_291) (pc' := 292) rfl ?_
  refine own_lload X4 hx (hb hby d9_292) rfl (pc' := 294) rfl ?_
  refine own_bipush X4 hx (hb hby d9_294) (z := (47 : Int32)) (by decide) (pc' := 296) rfl ?_
  refine own_lushr X4 hx (hb hby d9_296) (pc' := 297) rfl ?_
  refine own_lor X4 hx (hb hby d9_297) (pc' := 298) rfl ?_
  rw [own_r17]
  refine own_lstore X4 hx (hb hby d9_298) (l' := #[vR ra, vR rb, vI u2, vI u3, vL ((own_rot (t0.1 + t0.2.1) (32 : Int32)) + ((own_rot (t0.2.2.2 ^^^ m0) (16 : Int32)) ^^^ (t0.2.2.1 + (t0.2.2.2 ^^^ m0)))), vS, vL (own_rot ((own_rot t0.2.1 (13 : Int32)) ^^^ (t0.1 + t0.2.1)) (17 : Int32)), vS, vL ((t0.2.2.1 + (t0.2.2.2 ^^^ m0)) + ((own_rot t0.2.1 (13 : Int32)) ^^^ (t0.1 + t0.2.1))), vS, vL ((own_rot ((own_rot (t0.2.2.2 ^^^ m0) (16 : Int32)) ^^^ (t0.2.2.1 + (t0.2.2.2 ^^^ m0))) (21 : Int32)) ^^^ ((own_rot (t0.1 + t0.2.1) (32 : Int32)) + ((own_rot (t0.2.2.2 ^^^ m0) (16 : Int32)) ^^^ (t0.2.2.1 + (t0.2.2.2 ^^^ m0))))), vS, vI (u3 - u2), vI ((2 : Int32) + (1 : Int32)), vI (0 : Int32), vL m0, vS, vI oa0, vI oc0, vI ob0]) rfl (pc' := 300) rfl ?_
  refine own_lload X4 hx (hb hby d9_300) rfl (pc' := 302) rfl ?_
  refine own_lload X4 hx (hb hby d9_302) rfl (pc' := 304) rfl ?_
  refine own_lxor X4 hx (hb hby d9_304) (pc' := 305) rfl ?_
  refine own_lstore X4 hx (hb hby d9_305) (l' := #[vR ra, vR rb, vI u2, vI u3, vL ((own_rot (t0.1 + t0.2.1) (32 : Int32)) + ((own_rot (t0.2.2.2 ^^^ m0) (16 : Int32)) ^^^ (t0.2.2.1 + (t0.2.2.2 ^^^ m0)))), vS, vL ((own_rot ((own_rot t0.2.1 (13 : Int32)) ^^^ (t0.1 + t0.2.1)) (17 : Int32)) ^^^ ((t0.2.2.1 + (t0.2.2.2 ^^^ m0)) + ((own_rot t0.2.1 (13 : Int32)) ^^^ (t0.1 + t0.2.1)))), vS, vL ((t0.2.2.1 + (t0.2.2.2 ^^^ m0)) + ((own_rot t0.2.1 (13 : Int32)) ^^^ (t0.1 + t0.2.1))), vS, vL ((own_rot ((own_rot (t0.2.2.2 ^^^ m0) (16 : Int32)) ^^^ (t0.2.2.1 + (t0.2.2.2 ^^^ m0))) (21 : Int32)) ^^^ ((own_rot (t0.1 + t0.2.1) (32 : Int32)) + ((own_rot (t0.2.2.2 ^^^ m0) (16 : Int32)) ^^^ (t0.2.2.1 + (t0.2.2.2 ^^^ m0))))), vS, vI (u3 - u2), vI ((2 : Int32) + (1 : Int32)), vI (0 : Int32), vL m0, vS, vI oa0, vI oc0, vI ob0]) rfl (pc' := 307) rfl ?_
  refine own_lload X4 hx (hb hby d9_307) rfl (pc' := 309) rfl ?_
  refine own_bipush X4 hx (hb hby d9_309) (z := (32 : Int32)) (by decide) (pc' := 311) rfl ?_
  refine own_lshl X4 hx (hb hby d9_311) (pc' := 312) rfl ?_
  refine own_lload X4 hx (hb hby d9_312) rfl (pc' := 314) rfl ?_
  refine own_bipush X4 hx (hb hby d9_314) (z := (32 : Int32)) (by decide) (pc' := 316) rfl ?_
  refine own_lushr X4 hx (hb hby d9_316) (pc' := 317) rfl ?_
  refine own_lor X4 hx (hb hby d9_317) (pc' := 318) rfl ?_
  rw [own_r32]
  refine own_lstore X4 hx (hb hby d9_318) (l' := #[vR ra, vR rb, vI u2, vI u3, vL ((own_rot (t0.1 + t0.2.1) (32 : Int32)) + ((own_rot (t0.2.2.2 ^^^ m0) (16 : Int32)) ^^^ (t0.2.2.1 + (t0.2.2.2 ^^^ m0)))), vS, vL ((own_rot ((own_rot t0.2.1 (13 : Int32)) ^^^ (t0.1 + t0.2.1)) (17 : Int32)) ^^^ ((t0.2.2.1 + (t0.2.2.2 ^^^ m0)) + ((own_rot t0.2.1 (13 : Int32)) ^^^ (t0.1 + t0.2.1)))), vS, vL (own_rot ((t0.2.2.1 + (t0.2.2.2 ^^^ m0)) + ((own_rot t0.2.1 (13 : Int32)) ^^^ (t0.1 + t0.2.1))) (32 : Int32)), vS, vL ((own_rot ((own_rot (t0.2.2.2 ^^^ m0) (16 : Int32)) ^^^ (t0.2.2.1 + (t0.2.2.2 ^^^ m0))) (21 : Int32)) ^^^ ((own_rot (t0.1 + t0.2.1) (32 : Int32)) + ((own_rot (t0.2.2.2 ^^^ m0) (16 : Int32)) ^^^ (t0.2.2.1 + (t0.2.2.2 ^^^ m0))))), vS, vI (u3 - u2), vI ((2 : Int32) + (1 : Int32)), vI (0 : Int32), vL m0, vS, vI oa0, vI oc0, vI ob0]) rfl (pc' := 320) rfl ?_
  refine own_lload X4 hx (hb hby d9_320) rfl (pc' := 322) rfl ?_
  refine own_lload X4 hx (hb hby d9_322) rfl (pc' := 324) rfl ?_
  refine own_lxor X4 hx (hb hby d9_324) (pc' := 325) rfl ?_
  refine own_lstore X4 hx (hb hby d9_325) (l' := #[vR ra, vR rb, vI u2, vI u3, vL (((own_rot (t0.1 + t0.2.1) (32 : Int32)) + ((own_rot (t0.2.2.2 ^^^ m0) (16 : Int32)) ^^^ (t0.2.2.1 + (t0.2.2.2 ^^^ m0)))) ^^^ m0), vS, vL ((own_rot ((own_rot t0.2.1 (13 : Int32)) ^^^ (t0.1 + t0.2.1)) (17 : Int32)) ^^^ ((t0.2.2.1 + (t0.2.2.2 ^^^ m0)) + ((own_rot t0.2.1 (13 : Int32)) ^^^ (t0.1 + t0.2.1)))), vS, vL (own_rot ((t0.2.2.1 + (t0.2.2.2 ^^^ m0)) + ((own_rot t0.2.1 (13 : Int32)) ^^^ (t0.1 + t0.2.1))) (32 : Int32)), vS, vL ((own_rot ((own_rot (t0.2.2.2 ^^^ m0) (16 : Int32)) ^^^ (t0.2.2.1 + (t0.2.2.2 ^^^ m0))) (21 : Int32)) ^^^ ((own_rot (t0.1 + t0.2.1) (32 : Int32)) + ((own_rot (t0.2.2.2 ^^^ m0) (16 : Int32)) ^^^ (t0.2.2.1 + (t0.2.2.2 ^^^ m0))))), vS, vI (u3 - u2), vI ((2 : Int32) + (1 : Int32)), vI (0 : Int32), vL m0, vS, vI oa0, vI oc0, vI ob0]) rfl (pc' := 327) rfl ?_
  refine own_iinc X4 hx (hb hby d9_327) rfl (z := (1 : Int32)) rfl (l' := #[vR ra, vR rb, vI u2, vI u3, vL (((own_rot (t0.1 + t0.2.1) (32 : Int32)) + ((own_rot (t0.2.2.2 ^^^ m0) (16 : Int32)) ^^^ (t0.2.2.1 + (t0.2.2.2 ^^^ m0)))) ^^^ m0), vS, vL ((own_rot ((own_rot t0.2.1 (13 : Int32)) ^^^ (t0.1 + t0.2.1)) (17 : Int32)) ^^^ ((t0.2.2.1 + (t0.2.2.2 ^^^ m0)) + ((own_rot t0.2.1 (13 : Int32)) ^^^ (t0.1 + t0.2.1)))), vS, vL (own_rot ((t0.2.2.1 + (t0.2.2.2 ^^^ m0)) + ((own_rot t0.2.1 (13 : Int32)) ^^^ (t0.1 + t0.2.1))) (32 : Int32)), vS, vL ((own_rot ((own_rot (t0.2.2.2 ^^^ m0) (16 : Int32)) ^^^ (t0.2.2.1 + (t0.2.2.2 ^^^ m0))) (21 : Int32)) ^^^ ((own_rot (t0.1 + t0.2.1) (32 : Int32)) + ((own_rot (t0.2.2.2 ^^^ m0) (16 : Int32)) ^^^ (t0.2.2.1 + (t0.2.2.2 ^^^ m0))))), vS, vI (u3 - u2), vI ((2 : Int32) + (1 : Int32)), vI ((0 : Int32) + (1 : Int32)), vL m0, vS, vI oa0, vI oc0, vI ob0]) rfl (pc' := 330) rfl ?_
  refine own_goto X4 hx (hb hby d9_330) (by decide) (pc' := 57) rfl ?_
  show own_G p e below s _ _ _ (T4.setTop (mkF m 57 #[vR ra, vR rb, vI u2, vI u3, vL ((own_comp m0 t0).1), vS, vL ((own_comp m0 t0).2.1), vS, vL ((own_comp m0 t0).2.2.1), vS, vL ((own_comp m0 t0).2.2.2), vS, vI (u3 - u2), vI ((2 : Int32) + (1 : Int32)), vI (1 : Int32), vL m0, vS, vI oa0, vI oc0, vI ob0] []))
  generalize ht1 : (own_comp m0 t0) = t1
  refine own_iload X4 hx (hb hby d9_57) rfl (pc' := 59) rfl ?_
  refine own_iload X4 hx (hb hby d9_59) rfl (pc' := 61) rfl ?_
  refine own_iconst X4 hx (hb hby d9_61) (z := (3 : Int32)) rfl (pc' := 62) rfl ?_
  refine own_iadd X4 hx (hb hby d9_62) (pc' := 63) rfl ?_
  refine own_icmpF X4 hx (hb hby d9_63) (by decide) (pc' := 66) rfl ?_
  refine own_lconst X4 hx (hb hby d9_66) (z := (0 : Int64)) (by decide) (pc' := 67) rfl ?_
  refine own_lstore X4 hx (hb hby d9_67) (l' := #[vR ra, vR rb, vI u2, vI u3, vL t1.1, vS, vL t1.2.1, vS, vL t1.2.2.1, vS, vL t1.2.2.2, vS, vI (u3 - u2), vI ((2 : Int32) + (1 : Int32)), vI (1 : Int32), vL (0 : Int64), vS, vI oa0, vI oc0, vI ob0]) rfl (pc' := 69) rfl ?_
  refine own_iload X4 hx (hb hby d9_69) rfl (pc' := 71) rfl ?_
  refine own_iload X4 hx (hb hby d9_71) rfl (pc' := 73) rfl ?_
  refine own_icmpF X4 hx (hb hby d9_73) (by decide) (pc' := 76) rfl ?_
  refine own_iloadN X4 hx (hb hby d9_76) rfl (pc' := 77) rfl ?_
  refine own_iload X4 hx (hb hby d9_77) rfl (pc' := 79) rfl ?_
  refine own_bipush X4 hx (hb hby d9_79) (z := (8 : Int32)) (by decide) (pc' := 81) rfl ?_
  refine own_imul X4 hx (hb hby d9_81) (pc' := 82) rfl ?_
  refine own_iadd X4 hx (hb hby d9_82) (pc' := 83) rfl ?_
  refine own_istore X4 hx (hb hby d9_83) (l' := #[vR ra, vR rb, vI u2, vI u3, vL t1.1, vS, vL t1.2.1, vS, vL t1.2.2.1, vS, vL t1.2.2.2, vS, vI (u3 - u2), vI ((2 : Int32) + (1 : Int32)), vI (1 : Int32), vL (0 : Int64), vS, vI (u2 + ((1 : Int32) * (8 : Int32))), vI oc0, vI ob0]) rfl (pc' := 85) rfl ?_
  have ho1 := own_offk u2 (1 : Int32) ⟨hs, by omega⟩ (by decide)
  rw [show ((1 : Int32)).toInt = 1 from by decide] at ho1
  have hd1 := own_sub u3 (u2 + ((1 : Int32) * (8 : Int32))) (by omega)
  have hk1 : ¬ ((u3 - (u2 + ((1 : Int32) * (8 : Int32))))) < (8 : Int32) := by simp only [Int32.lt_iff_toInt_lt, Int32.reduceToInt]; omega
  refine own_iloadN X4 hx (hb hby d9_85) rfl (pc' := 86) rfl ?_
  refine own_iload X4 hx (hb hby d9_86) rfl (pc' := 88) rfl ?_
  refine own_isub X4 hx (hb hby d9_88) (pc' := 89) rfl ?_
  refine own_bipush X4 hx (hb hby d9_89) (z := (8 : Int32)) (by decide) (pc' := 91) rfl ?_
  refine own_icmpT X4 hx (hb hby d9_91) (flt hk1).2.1 (by decide) (pc' := 98) rfl ?_
  refine own_iload X4 hx (hb hby d9_98) rfl (pc' := 100) rfl ?_
  refine own_bipush X4 hx (hb hby d9_100) (z := (8 : Int32)) (by decide) (pc' := 102) rfl ?_
  refine own_iadd X4 hx (hb hby d9_102) (pc' := 103) rfl ?_
  refine own_istore X4 hx (hb hby d9_103) (l' := #[vR ra, vR rb, vI u2, vI u3, vL t1.1, vS, vL t1.2.1, vS, vL t1.2.2.1, vS, vL t1.2.2.2, vS, vI (u3 - u2), vI ((2 : Int32) + (1 : Int32)), vI (1 : Int32), vL (0 : Int64), vS, vI (u2 + ((1 : Int32) * (8 : Int32))), vI ((u2 + ((1 : Int32) * (8 : Int32))) + (8 : Int32)), vI ob0]) rfl (pc' := 105) rfl ?_
  refine own_iload X4 hx (hb hby d9_105) rfl (pc' := 107) rfl ?_
  refine own_iconst X4 hx (hb hby d9_107) (z := (1 : Int32)) rfl (pc' := 108) rfl ?_
  refine own_isub X4 hx (hb hby d9_108) (pc' := 109) rfl ?_
  refine own_istore X4 hx (hb hby d9_109) (l' := #[vR ra, vR rb, vI u2, vI u3, vL t1.1, vS, vL t1.2.1, vS, vL t1.2.2.1, vS, vL t1.2.2.2, vS, vI (u3 - u2), vI ((2 : Int32) + (1 : Int32)), vI (1 : Int32), vL (0 : Int64), vS, vI (u2 + ((1 : Int32) * (8 : Int32))), vI ((u2 + ((1 : Int32) * (8 : Int32))) + (8 : Int32)), vI (((u2 + ((1 : Int32) * (8 : Int32))) + (8 : Int32)) - (1 : Int32))]) rfl (pc' := 111) rfl ?_
  have hl1 := own_addk (u2 + ((1 : Int32) * (8 : Int32))) (8 : Int32) (by omega) (by decide)
  simp only [Int32.reduceToInt] at hl1
  have hm1 : (((u2 + ((1 : Int32) * (8 : Int32))) + (8 : Int32))).toInt = ((u2 + ((1 : Int32) * (8 : Int32)))).toInt + (8 : Nat) := by omega
  refine own_inner X4 hx hby hZ e4 ra rb gg P2 u2 u3 (u3 - u2) ((2 : Int32) + (1 : Int32)) (1 : Int32) (u2 + ((1 : Int32) * (8 : Int32))) ((u2 + ((1 : Int32) * (8 : Int32))) + (8 : Int32)) t1.1 t1.2.1 t1.2.2.1 t1.2.2.2 (by omega) 8 (((u2 + ((1 : Int32) * (8 : Int32))) + (8 : Int32)) - (1 : Int32)) 0 (own_j ((u2 + ((1 : Int32) * (8 : Int32))) + (8 : Int32)) (u2 + ((1 : Int32) * (8 : Int32))) 8 hm1 (by omega) (by omega)) (by omega) ?_
  rw [Nat.add_zero, own_Hle gg (u2 + ((1 : Int32) * (8 : Int32))) (8 : Int32) 8 (by omega) rfl]
  refine own_iload X4 hx (hb hby d9_141) rfl (pc' := 143) rfl ?_
  refine own_iload X4 hx (hb hby d9_143) rfl (pc' := 145) rfl ?_
  refine own_iconst X4 hx (hb hby d9_145) (z := (1 : Int32)) rfl (pc' := 146) rfl ?_
  refine own_isub X4 hx (hb hby d9_146) (pc' := 147) rfl ?_
  refine own_icmpT X4 hx (hb hby d9_147) (by decide) (by decide) (pc' := 161) rfl ?_
  refine own_goto X4 hx (hb hby d9_161) (by decide) (pc' := 179) rfl ?_
  generalize hM1 : (own_le8 gg (u2 + ((1 : Int32) * (8 : Int32))) (8 : Int32)) = m1
  generalize ((u2 + ((1 : Int32) * (8 : Int32))) + (-1 : Int32)) = ob1
  generalize ((u2 + ((1 : Int32) * (8 : Int32))) + (8 : Int32)) = oc1
  generalize (u2 + ((1 : Int32) * (8 : Int32))) = oa1
  refine own_lload X4 hx (hb hby d9_179) rfl (pc' := 181) rfl ?_
  refine own_lload X4 hx (hb hby d9_181) rfl (pc' := 183) rfl ?_
  refine own_lxor X4 hx (hb hby d9_183) (pc' := 184) rfl ?_
  refine own_lstore X4 hx (hb hby d9_184) (l' := #[vR ra, vR rb, vI u2, vI u3, vL t1.1, vS, vL t1.2.1, vS, vL t1.2.2.1, vS, vL (t1.2.2.2 ^^^ m1), vS, vI (u3 - u2), vI ((2 : Int32) + (1 : Int32)), vI (1 : Int32), vL m1, vS, vI oa1, vI oc1, vI ob1]) rfl (pc' := 186) rfl ?_
  refine own_lload X4 hx (hb hby d9_186) rfl (pc' := 188) rfl ?_
  refine own_lload X4 hx (hb hby d9_188) rfl (pc' := 190) rfl ?_
  refine own_ladd X4 hx (hb hby d9_190) (pc' := 191) rfl ?_
  refine own_lstore X4 hx (hb hby d9_191) (l' := #[vR ra, vR rb, vI u2, vI u3, vL (t1.1 + t1.2.1), vS, vL t1.2.1, vS, vL t1.2.2.1, vS, vL (t1.2.2.2 ^^^ m1), vS, vI (u3 - u2), vI ((2 : Int32) + (1 : Int32)), vI (1 : Int32), vL m1, vS, vI oa1, vI oc1, vI ob1]) rfl (pc' := 193) rfl ?_
  refine own_lload X4 hx (hb hby d9_193) rfl (pc' := 195) rfl ?_
  refine own_bipush X4 hx (hb hby d9_195) (z := (13 : Int32)) (by decide) (pc' := 197) rfl ?_
  refine own_lshl X4 hx (hb hby d9_197) (pc' := 198) rfl ?_
  refine own_lload X4 hx (hb hby d9_198) rfl (pc' := 200) rfl ?_
  refine own_bipush X4 hx (hb hby d9_200) (z := (51 : Int32)) (by decide) (pc' := 202) rfl ?_
  refine own_lushr X4 hx (hb hby d9_202) (pc' := 203) rfl ?_
  refine own_lor X4 hx (hb hby d9_203) (pc' := 204) rfl ?_
  rw [own_r13]
  refine own_lstore X4 hx (hb hby d9_204) (l' := #[vR ra, vR rb, vI u2, vI u3, vL (t1.1 + t1.2.1), vS, vL (own_rot t1.2.1 (13 : Int32)), vS, vL t1.2.2.1, vS, vL (t1.2.2.2 ^^^ m1), vS, vI (u3 - u2), vI ((2 : Int32) + (1 : Int32)), vI (1 : Int32), vL m1, vS, vI oa1, vI oc1, vI ob1]) rfl (pc' := 206) rfl ?_
  refine own_lload X4 hx (hb hby d9_206) rfl (pc' := 208) rfl ?_
  refine own_lload X4 hx (hb hby d9_208) rfl (pc' := 210) rfl ?_
  refine own_lxor X4 hx (hb hby d9_210) (pc' := 211) rfl ?_
  refine own_lstore X4 hx (hb hby d9_211) (l' := #[vR ra, vR rb, vI u2, vI u3, vL (t1.1 + t1.2.1), vS, vL ((own_rot t1.2.1 (13 : Int32)) ^^^ (t1.1 + t1.2.1)), vS, vL t1.2.2.1, vS, vL (t1.2.2.2 ^^^ m1), vS, vI (u3 - u2), vI ((2 : Int32) + (1 : Int32)), vI (1 : Int32), vL m1, vS, vI oa1, vI oc1, vI ob1]) rfl (pc' := 213) rfl ?_
  refine own_lload X4 hx (hb hby d9_213) rfl (pc' := 215) rfl ?_
  refine own_bipush X4 hx (hb hby d9_215) (z := (32 : Int32)) (by decide) (pc' := 217) rfl ?_
  refine own_lshl X4 hx (hb hby d9_217) (pc' := 218) rfl ?_
  refine own_lload X4 hx (hb hby d9_218) rfl (pc' := 220) rfl ?_
  refine own_bipush X4 hx (hb hby d9_220) (z := (32 : Int32)) (by decide) (pc' := 222) rfl ?_
  refine own_lushr X4 hx (hb hby d9_222) (pc' := 223) rfl ?_
  refine own_lor X4 hx (hb hby d9_223) (pc' := 224) rfl ?_
  rw [own_r32]
  refine own_lstore X4 hx (hb hby d9_224) (l' := #[vR ra, vR rb, vI u2, vI u3, vL (own_rot (t1.1 + t1.2.1) (32 : Int32)), vS, vL ((own_rot t1.2.1 (13 : Int32)) ^^^ (t1.1 + t1.2.1)), vS, vL t1.2.2.1, vS, vL (t1.2.2.2 ^^^ m1), vS, vI (u3 - u2), vI ((2 : Int32) + (1 : Int32)), vI (1 : Int32), vL m1, vS, vI oa1, vI oc1, vI ob1]) rfl (pc' := 226) rfl ?_
  refine own_lload X4 hx (hb hby d9_226) rfl (pc' := 228) rfl ?_
  refine own_lload X4 hx (hb hby d9_228) rfl (pc' := 230) rfl ?_
  refine own_ladd X4 hx (hb hby d9_230) (pc' := 231) rfl ?_
  refine own_lstore X4 hx (hb hby d9_231) (l' := #[vR ra, vR rb, vI u2, vI u3, vL (own_rot (t1.1 + t1.2.1) (32 : Int32)), vS, vL ((own_rot t1.2.1 (13 : Int32)) ^^^ (t1.1 + t1.2.1)), vS, vL (t1.2.2.1 + (t1.2.2.2 ^^^ m1)), vS, vL (t1.2.2.2 ^^^ m1), vS, vI (u3 - u2), vI ((2 : Int32) + (1 : Int32)), vI (1 : Int32), vL m1, vS, vI oa1, vI oc1, vI ob1]) rfl (pc' := 233) rfl ?_
  refine own_lload X4 hx (hb hby d9_233) rfl (pc' := 235) rfl ?_
  refine own_bipush X4 hx (hb hby d9_235) (z := (16 : Int32)) (by decide) (pc' := 237) rfl ?_
  refine own_lshl X4 hx (hb hby d9_237) (pc' := 238) rfl ?_
  refine own_lload X4 hx (hb hby d9_238) rfl (pc' := 240) rfl ?_
  refine own_bipush X4 hx (hb hby d9_240) (z := (48 : Int32)) (by decide) (pc' := 242) rfl ?_
  refine own_lushr X4 hx (hb hby d9_242) (pc' := 243) rfl ?_
  refine own_lor X4 hx (hb hby d9_243) (pc' := 244) rfl ?_
  rw [own_r16]
  refine own_lstore X4 hx (hb hby d9_244) (l' := #[vR ra, vR rb, vI u2, vI u3, vL (own_rot (t1.1 + t1.2.1) (32 : Int32)), vS, vL ((own_rot t1.2.1 (13 : Int32)) ^^^ (t1.1 + t1.2.1)), vS, vL (t1.2.2.1 + (t1.2.2.2 ^^^ m1)), vS, vL (own_rot (t1.2.2.2 ^^^ m1) (16 : Int32)), vS, vI (u3 - u2), vI ((2 : Int32) + (1 : Int32)), vI (1 : Int32), vL m1, vS, vI oa1, vI oc1, vI ob1]) rfl (pc' := 246) rfl ?_
  refine own_lload X4 hx (hb hby d9_246) rfl (pc' := 248) rfl ?_
  refine own_lload X4 hx (hb hby d9_248) rfl (pc' := 250) rfl ?_
  refine own_lxor X4 hx (hb hby d9_250) (pc' := 251) rfl ?_
  refine own_lstore X4 hx (hb hby d9_251) (l' := #[vR ra, vR rb, vI u2, vI u3, vL (own_rot (t1.1 + t1.2.1) (32 : Int32)), vS, vL ((own_rot t1.2.1 (13 : Int32)) ^^^ (t1.1 + t1.2.1)), vS, vL (t1.2.2.1 + (t1.2.2.2 ^^^ m1)), vS, vL ((own_rot (t1.2.2.2 ^^^ m1) (16 : Int32)) ^^^ (t1.2.2.1 + (t1.2.2.2 ^^^ m1))), vS, vI (u3 - u2), vI ((2 : Int32) + (1 : Int32)), vI (1 : Int32), vL m1, vS, vI oa1, vI oc1, vI ob1]) rfl (pc' := 253) rfl ?_
  refine own_lload X4 hx (hb hby d9_253) rfl (pc' := 255) rfl ?_
  refine own_lload X4 hx (hb hby d9_255) rfl (pc' := 257) rfl ?_
  refine own_ladd X4 hx (hb hby d9_257) (pc' := 258) rfl ?_
  refine own_lstore X4 hx (hb hby d9_258) (l' := #[vR ra, vR rb, vI u2, vI u3, vL ((own_rot (t1.1 + t1.2.1) (32 : Int32)) + ((own_rot (t1.2.2.2 ^^^ m1) (16 : Int32)) ^^^ (t1.2.2.1 + (t1.2.2.2 ^^^ m1)))), vS, vL ((own_rot t1.2.1 (13 : Int32)) ^^^ (t1.1 + t1.2.1)), vS, vL (t1.2.2.1 + (t1.2.2.2 ^^^ m1)), vS, vL ((own_rot (t1.2.2.2 ^^^ m1) (16 : Int32)) ^^^ (t1.2.2.1 + (t1.2.2.2 ^^^ m1))), vS, vI (u3 - u2), vI ((2 : Int32) + (1 : Int32)), vI (1 : Int32), vL m1, vS, vI oa1, vI oc1, vI ob1]) rfl (pc' := 260) rfl ?_
  refine own_lload X4 hx (hb hby d9_260) rfl (pc' := 262) rfl ?_
  refine own_bipush X4 hx (hb hby d9_262) (z := (21 : Int32)) (by decide) (pc' := 264) rfl ?_
  refine own_lshl X4 hx (hb hby d9_264) (pc' := 265) rfl ?_
  refine own_lload X4 hx (hb hby d9_265) rfl (pc' := 267) rfl ?_
  refine own_bipush X4 hx (hb hby d9_267) (z := (43 : Int32)) (by decide) (pc' := 269) rfl ?_
  refine own_lushr X4 hx (hb hby d9_269) (pc' := 270) rfl ?_
  refine own_lor X4 hx (hb hby d9_270) (pc' := 271) rfl ?_
  rw [own_r21]
  refine own_lstore X4 hx (hb hby d9_271) (l' := #[vR ra, vR rb, vI u2, vI u3, vL ((own_rot (t1.1 + t1.2.1) (32 : Int32)) + ((own_rot (t1.2.2.2 ^^^ m1) (16 : Int32)) ^^^ (t1.2.2.1 + (t1.2.2.2 ^^^ m1)))), vS, vL ((own_rot t1.2.1 (13 : Int32)) ^^^ (t1.1 + t1.2.1)), vS, vL (t1.2.2.1 + (t1.2.2.2 ^^^ m1)), vS, vL (own_rot ((own_rot (t1.2.2.2 ^^^ m1) (16 : Int32)) ^^^ (t1.2.2.1 + (t1.2.2.2 ^^^ m1))) (21 : Int32)), vS, vI (u3 - u2), vI ((2 : Int32) + (1 : Int32)), vI (1 : Int32), vL m1, vS, vI oa1, vI oc1, vI ob1]) rfl (pc' := 273) rfl ?_
  refine own_lload X4 hx (hb hby d9_273) rfl (pc' := 275) rfl ?_
  refine own_lload X4 hx (hb hby d9_275) rfl (pc' := 277) rfl ?_
  refine own_lxor X4 hx (hb hby d9_277) (pc' := 278) rfl ?_
  refine own_lstore X4 hx (hb hby d9_278) (l' := #[vR ra, vR rb, vI u2, vI u3, vL ((own_rot (t1.1 + t1.2.1) (32 : Int32)) + ((own_rot (t1.2.2.2 ^^^ m1) (16 : Int32)) ^^^ (t1.2.2.1 + (t1.2.2.2 ^^^ m1)))), vS, vL ((own_rot t1.2.1 (13 : Int32)) ^^^ (t1.1 + t1.2.1)), vS, vL (t1.2.2.1 + (t1.2.2.2 ^^^ m1)), vS, vL ((own_rot ((own_rot (t1.2.2.2 ^^^ m1) (16 : Int32)) ^^^ (t1.2.2.1 + (t1.2.2.2 ^^^ m1))) (21 : Int32)) ^^^ ((own_rot (t1.1 + t1.2.1) (32 : Int32)) + ((own_rot (t1.2.2.2 ^^^ m1) (16 : Int32)) ^^^ (t1.2.2.1 + (t1.2.2.2 ^^^ m1))))), vS, vI (u3 - u2), vI ((2 : Int32) + (1 : Int32)), vI (1 : Int32), vL m1, vS, vI oa1, vI oc1, vI ob1]) rfl (pc' := 280) rfl ?_
  refine own_lload X4 hx (hb hby d9_280) rfl (pc' := 282) rfl ?_
  refine own_lload X4 hx (hb hby d9_282) rfl (pc' := 284) rfl ?_
  refine own_ladd X4 hx (hb hby d9_284) (pc' := 285) rfl ?_
  refine own_lstore X4 hx (hb hby d9_285) (l' := #[vR ra, vR rb, vI u2, vI u3, vL ((own_rot (t1.1 + t1.2.1) (32 : Int32)) + ((own_rot (t1.2.2.2 ^^^ m1) (16 : Int32)) ^^^ (t1.2.2.1 + (t1.2.2.2 ^^^ m1)))), vS, vL ((own_rot t1.2.1 (13 : Int32)) ^^^ (t1.1 + t1.2.1)), vS, vL ((t1.2.2.1 + (t1.2.2.2 ^^^ m1)) + ((own_rot t1.2.1 (13 : Int32)) ^^^ (t1.1 + t1.2.1))), vS, vL ((own_rot ((own_rot (t1.2.2.2 ^^^ m1) (16 : Int32)) ^^^ (t1.2.2.1 + (t1.2.2.2 ^^^ m1))) (21 : Int32)) ^^^ ((own_rot (t1.1 + t1.2.1) (32 : Int32)) + ((own_rot (t1.2.2.2 ^^^ m1) (16 : Int32)) ^^^ (t1.2.2.1 + (t1.2.2.2 ^^^ m1))))), vS, vI (u3 - u2), vI ((2 : Int32) + (1 : Int32)), vI (1 : Int32), vL m1, vS, vI oa1, vI oc1, vI ob1]) rfl (pc' := 287) rfl ?_
  refine own_lload X4 hx (hb hby d9_287) rfl (pc' := 289) rfl ?_
  refine own_bipush X4 hx (hb hby d9_289) (z := (17 : Int32)) (by decide) (pc' := 291) rfl ?_
  refine own_lshl X4 hx (hb hby d9_291) (pc' := 292) rfl ?_
  refine own_lload X4 hx (hb hby d9_292) rfl (pc' := 294) rfl ?_
  refine own_bipush X4 hx (hb hby d9_294) (z := (47 : Int32)) (by decide) (pc' := 296) rfl ?_
  refine own_lushr X4 hx (hb hby d9_296) (pc' := 297) rfl ?_
  refine own_lor X4 hx (hb hby d9_297) (pc' := 298) rfl ?_
  rw [own_r17]
  refine own_lstore X4 hx (hb hby d9_298) (l' := #[vR ra, vR rb, vI u2, vI u3, vL ((own_rot (t1.1 + t1.2.1) (32 : Int32)) + ((own_rot (t1.2.2.2 ^^^ m1) (16 : Int32)) ^^^ (t1.2.2.1 + (t1.2.2.2 ^^^ m1)))), vS, vL (own_rot ((own_rot t1.2.1 (13 : Int32)) ^^^ (t1.1 + t1.2.1)) (17 : Int32)), vS, vL ((t1.2.2.1 + (t1.2.2.2 ^^^ m1)) + ((own_rot t1.2.1 (13 : Int32)) ^^^ (t1.1 + t1.2.1))), vS, vL ((own_rot ((own_rot (t1.2.2.2 ^^^ m1) (16 : Int32)) ^^^ (t1.2.2.1 + (t1.2.2.2 ^^^ m1))) (21 : Int32)) ^^^ ((own_rot (t1.1 + t1.2.1) (32 : Int32)) + ((own_rot (t1.2.2.2 ^^^ m1) (16 : Int32)) ^^^ (t1.2.2.1 + (t1.2.2.2 ^^^ m1))))), vS, vI (u3 - u2), vI ((2 : Int32) + (1 : Int32)), vI (1 : Int32), vL m1, vS, vI oa1, vI oc1, vI ob1]) rfl (pc' := 300) rfl ?_
  refine own_lload X4 hx (hb hby d9_300) rfl (pc' := 302) rfl ?_
  refine own_lload X4 hx (hb hby d9_302) rfl (pc' := 304) rfl ?_
  refine own_lxor X4 hx (hb hby d9_304) (pc' := 305) rfl ?_
  refine own_lstore X4 hx (hb hby d9_305) (l' := #[vR ra, vR rb, vI u2, vI u3, vL ((own_rot (t1.1 + t1.2.1) (32 : Int32)) + ((own_rot (t1.2.2.2 ^^^ m1) (16 : Int32)) ^^^ (t1.2.2.1 + (t1.2.2.2 ^^^ m1)))), vS, vL ((own_rot ((own_rot t1.2.1 (13 : Int32)) ^^^ (t1.1 + t1.2.1)) (17 : Int32)) ^^^ ((t1.2.2.1 + (t1.2.2.2 ^^^ m1)) + ((own_rot t1.2.1 (13 : Int32)) ^^^ (t1.1 + t1.2.1)))), vS, vL ((t1.2.2.1 + (t1.2.2.2 ^^^ m1)) + ((own_rot t1.2.1 (13 : Int32)) ^^^ (t1.1 + t1.2.1))), vS, vL ((own_rot ((own_rot (t1.2.2.2 ^^^ m1) (16 : Int32)) ^^^ (t1.2.2.1 + (t1.2.2.2 ^^^ m1))) (21 : Int32)) ^^^ ((own_rot (t1.1 + t1.2.1) (32 : Int32)) + ((own_rot (t1.2.2.2 ^^^ m1) (16 : Int32)) ^^^ (t1.2.2.1 + (t1.2.2.2 ^^^ m1))))), vS, vI (u3 - u2), vI ((2 : Int32) + (1 : Int32)), vI (1 : Int32), vL m1, vS, vI oa1, vI oc1, vI ob1]) rfl (pc' := 307) rfl ?_
  refine own_lload X4 hx (hb hby d9_307) rfl (pc' := 309) rfl ?_
  refine own_bipush X4 hx (hb hby d9_309) (z := (32 : Int32)) (by decide) (pc' := 311) rfl ?_
  refine own_lshl X4 hx (hb hby d9_311) (pc' := 312) rfl ?_
  refine own_lload X4 hx (hb hby d9_312) rfl (pc' := 314) rfl ?_
  refine own_bipush X4 hx (hb hby d9_314) (z := (32 : Int32)) (by decide) (pc' := 316) rfl ?_
  refine own_lushr X4 hx (hb hby d9_316) (pc' := 317) rfl ?_
  refine own_lor X4 hx (hb hby d9_317) (pc' := 318) rfl ?_
  rw [own_r32]
  refine own_lstore X4 hx (hb hby d9_318) (l' := #[vR ra, vR rb, vI u2, vI u3, vL ((own_rot (t1.1 + t1.2.1) (32 : Int32)) + ((own_rot (t1.2.2.2 ^^^ m1) (16 : Int32)) ^^^ (t1.2.2.1 + (t1.2.2.2 ^^^ m1)))), vS, vL ((own_rot ((own_rot t1.2.1 (13 : Int32)) ^^^ (t1.1 + t1.2.1)) (17 : Int32)) ^^^ ((t1.2.2.1 + (t1.2.2.2 ^^^ m1)) + ((own_rot t1.2.1 (13 : Int32)) ^^^ (t1.1 + t1.2.1)))), vS, vL (own_rot ((t1.2.2.1 + (t1.2.2.2 ^^^ m1)) + ((own_rot t1.2.1 (13 : Int32)) ^^^ (t1.1 + t1.2.1))) (32 : Int32)), vS, vL ((own_rot ((own_rot (t1.2.2.2 ^^^ m1) (16 : Int32)) ^^^ (t1.2.2.1 + (t1.2.2.2 ^^^ m1))) (21 : Int32)) ^^^ ((own_rot (t1.1 + t1.2.1) (32 : Int32)) + ((own_rot (t1.2.2.2 ^^^ m1) (16 : Int32)) ^^^ (t1.2.2.1 + (t1.2.2.2 ^^^ m1))))), vS, vI (u3 - u2), vI ((2 : Int32) + (1 : Int32)), vI (1 : Int32), vL m1, vS, vI oa1, vI oc1, vI ob1]) rfl (pc' := 320) rfl ?_
  refine own_lload X4 hx (hb hby d9_320) rfl (pc' := 322) rfl ?_
  refine own_lload X4 hx (hb hby d9_322) rfl (pc' := 324) rfl ?_
  refine own_lxor X4 hx (hb hby d9_324) (pc' := 325) rfl ?_
  refine own_lstore X4 hx (hb hby d9_325) (l' := #[vR ra, vR rb, vI u2, vI u3, vL (((own_rot (t1.1 + t1.2.1) (32 : Int32)) + ((own_rot (t1.2.2.2 ^^^ m1) (16 : Int32)) ^^^ (t1.2.2.1 + (t1.2.2.2 ^^^ m1)))) ^^^ m1), vS, vL ((own_rot ((own_rot t1.2.1 (13 : Int32)) ^^^ (t1.1 + t1.2.1)) (17 : Int32)) ^^^ ((t1.2.2.1 + (t1.2.2.2 ^^^ m1)) + ((own_rot t1.2.1 (13 : Int32)) ^^^ (t1.1 + t1.2.1)))), vS, vL (own_rot ((t1.2.2.1 + (t1.2.2.2 ^^^ m1)) + ((own_rot t1.2.1 (13 : Int32)) ^^^ (t1.1 + t1.2.1))) (32 : Int32)), vS, vL ((own_rot ((own_rot (t1.2.2.2 ^^^ m1) (16 : Int32)) ^^^ (t1.2.2.1 + (t1.2.2.2 ^^^ m1))) (21 : Int32)) ^^^ ((own_rot (t1.1 + t1.2.1) (32 : Int32)) + ((own_rot (t1.2.2.2 ^^^ m1) (16 : Int32)) ^^^ (t1.2.2.1 + (t1.2.2.2 ^^^ m1))))), vS, vI (u3 - u2), vI ((2 : Int32) + (1 : Int32)), vI (1 : Int32), vL m1, vS, vI oa1, vI oc1, vI ob1]) rfl (pc' := 327) rfl ?_
  refine own_iinc X4 hx (hb hby d9_327) rfl (z := (1 : Int32)) rfl (l' := #[vR ra, vR rb, vI u2, vI u3, vL (((own_rot (t1.1 + t1.2.1) (32 : Int32)) + ((own_rot (t1.2.2.2 ^^^ m1) (16 : Int32)) ^^^ (t1.2.2.1 + (t1.2.2.2 ^^^ m1)))) ^^^ m1), vS, vL ((own_rot ((own_rot t1.2.1 (13 : Int32)) ^^^ (t1.1 + t1.2.1)) (17 : Int32)) ^^^ ((t1.2.2.1 + (t1.2.2.2 ^^^ m1)) + ((own_rot t1.2.1 (13 : Int32)) ^^^ (t1.1 + t1.2.1)))), vS, vL (own_rot ((t1.2.2.1 + (t1.2.2.2 ^^^ m1)) + ((own_rot t1.2.1 (13 : Int32)) ^^^ (t1.1 + t1.2.1))) (32 : Int32)), vS, vL ((own_rot ((own_rot (t1.2.2.2 ^^^ m1) (16 : Int32)) ^^^ (t1.2.2.1 + (t1.2.2.2 ^^^ m1))) (21 : Int32)) ^^^ ((own_rot (t1.1 + t1.2.1) (32 : Int32)) + ((own_rot (t1.2.2.2 ^^^ m1) (16 : Int32)) ^^^ (t1.2.2.1 + (t1.2.2.2 ^^^ m1))))), vS, vI (u3 - u2), vI ((2 : Int32) + (1 : Int32)), vI ((1 : Int32) + (1 : Int32)), vL m1, vS, vI oa1, vI oc1, vI ob1]) rfl (pc' := 330) rfl ?_
  refine own_goto X4 hx (hb hby d9_330) (by decide) (pc' := 57) rfl ?_
  show own_G p e below s _ _ _ (T4.setTop (mkF m 57 #[vR ra, vR rb, vI u2, vI u3, vL ((own_comp m1 t1).1), vS, vL ((own_comp m1 t1).2.1), vS, vL ((own_comp m1 t1).2.2.1), vS, vL ((own_comp m1 t1).2.2.2), vS, vI (u3 - u2), vI ((2 : Int32) + (1 : Int32)), vI (2 : Int32), vL m1, vS, vI oa1, vI oc1, vI ob1] []))
  generalize ht2 : (own_comp m1 t1) = t2
  refine own_iload X4 hx (hb hby d9_57) rfl (pc' := 59) rfl ?_
  refine own_iload X4 hx (hb hby d9_59) rfl (pc' := 61) rfl ?_
  refine own_iconst X4 hx (hb hby d9_61) (z := (3 : Int32)) rfl (pc' := 62) rfl ?_
  refine own_iadd X4 hx (hb hby d9_62) (pc' := 63) rfl ?_
  refine own_icmpF X4 hx (hb hby d9_63) (by decide) (pc' := 66) rfl ?_
  refine own_lconst X4 hx (hb hby d9_66) (z := (0 : Int64)) (by decide) (pc' := 67) rfl ?_
  refine own_lstore X4 hx (hb hby d9_67) (l' := #[vR ra, vR rb, vI u2, vI u3, vL t2.1, vS, vL t2.2.1, vS, vL t2.2.2.1, vS, vL t2.2.2.2, vS, vI (u3 - u2), vI ((2 : Int32) + (1 : Int32)), vI (2 : Int32), vL (0 : Int64), vS, vI oa1, vI oc1, vI ob1]) rfl (pc' := 69) rfl ?_
  refine own_iload X4 hx (hb hby d9_69) rfl (pc' := 71) rfl ?_
  refine own_iload X4 hx (hb hby d9_71) rfl (pc' := 73) rfl ?_
  refine own_icmpF X4 hx (hb hby d9_73) (by decide) (pc' := 76) rfl ?_
  refine own_iloadN X4 hx (hb hby d9_76) rfl (pc' := 77) rfl ?_
  refine own_iload X4 hx (hb hby d9_77) rfl (pc' := 79) rfl ?_
  refine own_bipush X4 hx (hb hby d9_79) (z := (8 : Int32)) (by decide) (pc' := 81) rfl ?_
  refine own_imul X4 hx (hb hby d9_81) (pc' := 82) rfl ?_
  refine own_iadd X4 hx (hb hby d9_82) (pc' := 83) rfl ?_
  refine own_istore X4 hx (hb hby d9_83) (l' := #[vR ra, vR rb, vI u2, vI u3, vL t2.1, vS, vL t2.2.1, vS, vL t2.2.2.1, vS, vL t2.2.2.2, vS, vI (u3 - u2), vI ((2 : Int32) + (1 : Int32)), vI (2 : Int32), vL (0 : Int64), vS, vI (u2 + ((2 : Int32) * (8 : Int32))), vI oc1, vI ob1]) rfl (pc' := 85) rfl ?_
  have ho2 := own_offk u2 (2 : Int32) ⟨hs, by omega⟩ (by decide)
  rw [show ((2 : Int32)).toInt = 2 from by decide] at ho2
  have hd2 := own_sub u3 (u2 + ((2 : Int32) * (8 : Int32))) (by omega)
  have hk2 : (u3 - (u2 + ((2 : Int32) * (8 : Int32)))) < (8 : Int32) := by simp only [Int32.lt_iff_toInt_lt, Int32.reduceToInt]; omega
  refine own_iloadN X4 hx (hb hby d9_85) rfl (pc' := 86) rfl ?_
  refine own_iload X4 hx (hb hby d9_86) rfl (pc' := 88) rfl ?_
  refine own_isub X4 hx (hb hby d9_88) (pc' := 89) rfl ?_
  refine own_bipush X4 hx (hb hby d9_89) (z := (8 : Int32)) (by decide) (pc' := 91) rfl ?_
  refine own_icmpF X4 hx (hb hby d9_91) (tlt hk2).2.1 (pc' := 94) rfl ?_
  refine own_iloadN X4 hx (hb hby d9_94) rfl (pc' := 95) rfl ?_
  refine own_goto X4 hx (hb hby d9_95) (by decide) (pc' := 103) rfl ?_
  refine own_istore X4 hx (hb hby d9_103) (l' := #[vR ra, vR rb, vI u2, vI u3, vL t2.1, vS, vL t2.2.1, vS, vL t2.2.2.1, vS, vL t2.2.2.2, vS, vI (u3 - u2), vI ((2 : Int32) + (1 : Int32)), vI (2 : Int32), vL (0 : Int64), vS, vI (u2 + ((2 : Int32) * (8 : Int32))), vI u3, vI ob1]) rfl (pc' := 105) rfl ?_
  refine own_iload X4 hx (hb hby d9_105) rfl (pc' := 107) rfl ?_
  refine own_iconst X4 hx (hb hby d9_107) (z := (1 : Int32)) rfl (pc' := 108) rfl ?_
  refine own_isub X4 hx (hb hby d9_108) (pc' := 109) rfl ?_
  refine own_istore X4 hx (hb hby d9_109) (l' := #[vR ra, vR rb, vI u2, vI u3, vL t2.1, vS, vL t2.2.1, vS, vL t2.2.2.1, vS, vL t2.2.2.2, vS, vI (u3 - u2), vI ((2 : Int32) + (1 : Int32)), vI (2 : Int32), vL (0 : Int64), vS, vI (u2 + ((2 : Int32) * (8 : Int32))), vI u3, vI (u3 - (1 : Int32))]) rfl (pc' := 111) rfl ?_
  have hm2 : (u3).toInt = ((u2 + ((2 : Int32) * (8 : Int32)))).toInt + ((u3.toInt - ((u2 + ((2 : Int32) * (8 : Int32)))).toInt).toNat : Nat) := by omega
  refine own_inner X4 hx hby hZ e4 ra rb gg P2 u2 u3 (u3 - u2) ((2 : Int32) + (1 : Int32)) (2 : Int32) (u2 + ((2 : Int32) * (8 : Int32))) u3 t2.1 t2.2.1 t2.2.2.1 t2.2.2.2 (by omega) (u3.toInt - ((u2 + ((2 : Int32) * (8 : Int32)))).toInt).toNat (u3 - (1 : Int32)) 0 (own_j u3 (u2 + ((2 : Int32) * (8 : Int32))) (u3.toInt - ((u2 + ((2 : Int32) * (8 : Int32)))).toInt).toNat hm2 (by omega) (by omega)) (by omega) ?_
  rw [Nat.add_zero, own_Hle gg (u2 + ((2 : Int32) * (8 : Int32))) (u3 - (u2 + ((2 : Int32) * (8 : Int32)))) (u3.toInt - ((u2 + ((2 : Int32) * (8 : Int32)))).toInt).toNat (by omega) (by omega)]
  refine own_iload X4 hx (hb hby d9_141) rfl (pc' := 143) rfl ?_
  refine own_iload X4 hx (hb hby d9_143) rfl (pc' := 145) rfl ?_
  refine own_iconst X4 hx (hb hby d9_145) (z := (1 : Int32)) rfl (pc' := 146) rfl ?_
  refine own_isub X4 hx (hb hby d9_146) (pc' := 147) rfl ?_
  refine own_icmpF X4 hx (hb hby d9_147) (by decide) (pc' := 150) rfl ?_
  refine own_lload X4 hx (hb hby d9_150) rfl (pc' := 152) rfl ?_
  refine own_iload X4 hx (hb hby d9_152) rfl (pc' := 154) rfl ?_
  refine own_i2l X4 hx (hb hby d9_154) (pc' := 155) rfl ?_
  refine own_bipush X4 hx (hb hby d9_155) (z := (56 : Int32)) (by decide) (pc' := 157) rfl ?_
  refine own_lshl X4 hx (hb hby d9_157) (pc' := 158) rfl ?_
  refine own_lor X4 hx (hb hby d9_158) (pc' := 159) rfl ?_
  refine own_lstore X4 hx (hb hby d9_159) (l' := #[vR ra, vR rb, vI u2, vI u3, vL t2.1, vS, vL t2.2.1, vS, vL t2.2.2.1, vS, vL t2.2.2.2, vS, vI (u3 - u2), vI ((2 : Int32) + (1 : Int32)), vI (2 : Int32), vL ((own_le8 gg (u2 + ((2 : Int32) * (8 : Int32))) (u3 - (u2 + ((2 : Int32) * (8 : Int32))))) ||| (((u3 - u2).toInt64) <<< ((56 : Int32) &&& 0x3f).toInt64)), vS, vI (u2 + ((2 : Int32) * (8 : Int32))), vI u3, vI ((u2 + ((2 : Int32) * (8 : Int32))) + (-1 : Int32))]) rfl (pc' := 161) rfl ?_
  refine own_goto X4 hx (hb hby d9_161) (by decide) (pc' := 179) rfl ?_
  generalize hM2 : ((own_le8 gg (u2 + ((2 : Int32) * (8 : Int32))) (u3 - (u2 + ((2 : Int32) * (8 : Int32))))) ||| (((u3 - u2).toInt64) <<< ((56 : Int32) &&& 0x3f).toInt64)) = m2
  generalize ((u2 + ((2 : Int32) * (8 : Int32))) + (-1 : Int32)) = ob2
  generalize (u2 + ((2 : Int32) * (8 : Int32))) = oa2
  refine own_lload X4 hx (hb hby d9_179) rfl (pc' := 181) rfl ?_
  refine own_lload X4 hx (hb hby d9_181) rfl (pc' := 183) rfl ?_
  refine own_lxor X4 hx (hb hby d9_183) (pc' := 184) rfl ?_
  refine own_lstore X4 hx (hb hby d9_184) (l' := #[vR ra, vR rb, vI u2, vI u3, vL t2.1, vS, vL t2.2.1, vS, vL t2.2.2.1, vS, vL (t2.2.2.2 ^^^ m2), vS, vI (u3 - u2), vI ((2 : Int32) + (1 : Int32)), vI (2 : Int32), vL m2, vS, vI oa2, vI u3, vI ob2]) rfl (pc' := 186) rfl ?_
  refine own_lload X4 hx (hb hby d9_186) rfl (pc' := 188) rfl ?_
  refine own_lload X4 hx (hb hby d9_188) rfl (pc' := 190) rfl ?_
  refine own_ladd X4 hx (hb hby d9_190) (pc' := 191) rfl ?_
  refine own_lstore X4 hx (hb hby d9_191) (l' := #[vR ra, vR rb, vI u2, vI u3, vL (t2.1 + t2.2.1), vS, vL t2.2.1, vS, vL t2.2.2.1, vS, vL (t2.2.2.2 ^^^ m2), vS, vI (u3 - u2), vI ((2 : Int32) + (1 : Int32)), vI (2 : Int32), vL m2, vS, vI oa2, vI u3, vI ob2]) rfl (pc' := 193) rfl ?_
  refine own_lload X4 hx (hb hby d9_193) rfl (pc' := 195) rfl ?_
  refine own_bipush X4 hx (hb hby d9_195) (z := (13 : Int32)) (by decide) (pc' := 197) rfl ?_
  refine own_lshl X4 hx (hb hby d9_197) (pc' := 198) rfl ?_
  refine own_lload X4 hx (hb hby d9_198) rfl (pc' := 200) rfl ?_
  refine own_bipush X4 hx (hb hby d9_200) (z := (51 : Int32)) (by decide) (pc' := 202) rfl ?_
  refine own_lushr X4 hx (hb hby d9_202) (pc' := 203) rfl ?_
  refine own_lor X4 hx (hb hby d9_203) (pc' := 204) rfl ?_
  rw [own_r13]
  refine own_lstore X4 hx (hb hby d9_204) (l' := #[vR ra, vR rb, vI u2, vI u3, vL (t2.1 + t2.2.1), vS, vL (own_rot t2.2.1 (13 : Int32)), vS, vL t2.2.2.1, vS, vL (t2.2.2.2 ^^^ m2), vS, vI (u3 - u2), vI ((2 : Int32) + (1 : Int32)), vI (2 : Int32), vL m2, vS, vI oa2, vI u3, vI ob2]) rfl (pc' := 206) rfl ?_
  refine own_lload X4 hx (hb hby d9_206) rfl (pc' := 208) rfl ?_
  refine own_lload X4 hx (hb hby d9_208) rfl (pc' := 210) rfl ?_
  refine own_lxor X4 hx (hb hby d9_210) (pc' := 211) rfl ?_
  refine own_lstore X4 hx (hb hby d9_211) (l' := #[vR ra, vR rb, vI u2, vI u3, vL (t2.1 + t2.2.1), vS, vL ((own_rot t2.2.1 (13 : Int32)) ^^^ (t2.1 + t2.2.1)), vS, vL t2.2.2.1, vS, vL (t2.2.2.2 ^^^ m2), vS, vI (u3 - u2), vI ((2 : Int32) + (1 : Int32)), vI (2 : Int32), vL m2, vS, vI oa2, vI u3, vI ob2]) rfl (pc' := 213) rfl ?_
  refine own_lload X4 hx (hb hby d9_213) rfl (pc' := 215) rfl ?_
  refine own_bipush X4 hx (hb hby d9_215) (z := (32 : Int32)) (by decide) (pc' := 217) rfl ?_
  refine own_lshl X4 hx (hb hby d9_217) (pc' := 218) rfl ?_
  refine own_lload X4 hx (hb hby d9_218) rfl (pc' := 220) rfl ?_
  refine own_bipush X4 hx (hb hby d9_220) (z := (32 : Int32)) (by decide) (pc' := 222) rfl ?_
  refine own_lushr X4 hx (hb hby d9_222) (pc' := 223) rfl ?_
  refine own_lor X4 hx (hb hby d9_223) (pc' := 224) rfl ?_
  rw [own_r32]
  refine own_lstore X4 hx (hb hby d9_224) (l' := #[vR ra, vR rb, vI u2, vI u3, vL (own_rot (t2.1 + t2.2.1) (32 : Int32)), vS, vL ((own_rot t2.2.1 (13 : Int32)) ^^^ (t2.1 + t2.2.1)), vS, vL t2.2.2.1, vS, vL (t2.2.2.2 ^^^ m2), vS, vI (u3 - u2), vI ((2 : Int32) + (1 : Int32)), vI (2 : Int32), vL m2, vS, vI oa2, vI u3, vI ob2]) rfl (pc' := 226) rfl ?_
  refine own_lload X4 hx (hb hby d9_226) rfl (pc' := 228) rfl ?_
  refine own_lload X4 hx (hb hby d9_228) rfl (pc' := 230) rfl ?_
  refine own_ladd X4 hx (hb hby d9_230) (pc' := 231) rfl ?_
  refine own_lstore X4 hx (hb hby d9_231) (l' := #[vR ra, vR rb, vI u2, vI u3, vL (own_rot (t2.1 + t2.2.1) (32 : Int32)), vS, vL ((own_rot t2.2.1 (13 : Int32)) ^^^ (t2.1 + t2.2.1)), vS, vL (t2.2.2.1 + (t2.2.2.2 ^^^ m2)), vS, vL (t2.2.2.2 ^^^ m2), vS, vI (u3 - u2), vI ((2 : Int32) + (1 : Int32)), vI (2 : Int32), vL m2, vS, vI oa2, vI u3, vI ob2]) rfl (pc' := 233) rfl ?_
  refine own_lload X4 hx (hb hby d9_233) rfl (pc' := 235) rfl ?_
  refine own_bipush X4 hx (hb hby d9_235) (z := (16 : Int32)) (by decide) (pc' := 237) rfl ?_
  refine own_lshl X4 hx (hb hby d9_237) (pc' := 238) rfl ?_
  refine own_lload X4 hx (hb hby d9_238) rfl (pc' := 240) rfl ?_
  refine own_bipush X4 hx (hb hby d9_240) (z := (48 : Int32)) (by decide) (pc' := 242) rfl ?_
  refine own_lushr X4 hx (hb hby d9_242) (pc' := 243) rfl ?_
  refine own_lor X4 hx (hb hby d9_243) (pc' := 244) rfl ?_
  rw [own_r16]
  refine own_lstore X4 hx (hb hby d9_244) (l' := #[vR ra, vR rb, vI u2, vI u3, vL (own_rot (t2.1 + t2.2.1) (32 : Int32)), vS, vL ((own_rot t2.2.1 (13 : Int32)) ^^^ (t2.1 + t2.2.1)), vS, vL (t2.2.2.1 + (t2.2.2.2 ^^^ m2)), vS, vL (own_rot (t2.2.2.2 ^^^ m2) (16 : Int32)), vS, vI (u3 - u2), vI ((2 : Int32) + (1 : Int32)), vI (2 : Int32), vL m2, vS, vI oa2, vI u3, vI ob2]) rfl (pc' := 246) rfl ?_
  refine own_lload X4 hx (hb hby d9_246) rfl (pc' := 248) rfl ?_
  refine own_lload X4 hx (hb hby d9_248) rfl (pc' := 250) rfl ?_
  refine own_lxor X4 hx (hb hby d9_250) (pc' := 251) rfl ?_
  refine own_lstore X4 hx (hb hby d9_251) (l' := #[vR ra, vR rb, vI u2, vI u3, vL (own_rot (t2.1 + t2.2.1) (32 : Int32)), vS, vL ((own_rot t2.2.1 (13 : Int32)) ^^^ (t2.1 + t2.2.1)), vS, vL (t2.2.2.1 + (t2.2.2.2 ^^^ m2)), vS, vL ((own_rot (t2.2.2.2 ^^^ m2) (16 : Int32)) ^^^ (t2.2.2.1 + (t2.2.2.2 ^^^ m2))), vS, vI (u3 - u2), vI ((2 : Int32) + (1 : Int32)), vI (2 : Int32), vL m2, vS, vI oa2, vI u3, vI ob2]) rfl (pc' := 253) rfl ?_
  refine own_lload X4 hx (hb hby d9_253) rfl (pc' := 255) rfl ?_
  refine own_lload X4 hx (hb hby d9_255) rfl (pc' := 257) rfl ?_
  refine own_ladd X4 hx (hb hby d9_257) (pc' := 258) rfl ?_
  refine own_lstore X4 hx (hb hby d9_258) (l' := #[vR ra, vR rb, vI u2, vI u3, vL ((own_rot (t2.1 + t2.2.1) (32 : Int32)) + ((own_rot (t2.2.2.2 ^^^ m2) (16 : Int32)) ^^^ (t2.2.2.1 + (t2.2.2.2 ^^^ m2)))), vS, vL ((own_rot t2.2.1 (13 : Int32)) ^^^ (t2.1 + t2.2.1)), vS, vL (t2.2.2.1 + (t2.2.2.2 ^^^ m2)), vS, vL ((own_rot (t2.2.2.2 ^^^ m2) (16 : Int32)) ^^^ (t2.2.2.1 + (t2.2.2.2 ^^^ m2))), vS, vI (u3 - u2), vI ((2 : Int32) + (1 : Int32)), vI (2 : Int32), vL m2, vS, vI oa2, vI u3, vI ob2]) rfl (pc' := 260) rfl ?_
  refine own_lload X4 hx (hb hby d9_260) rfl (pc' := 262) rfl ?_
  refine own_bipush X4 hx (hb hby d9_262) (z := (21 : Int32)) (by decide) (pc' := 264) rfl ?_
  refine own_lshl X4 hx (hb hby d9_264) (pc' := 265) rfl ?_
  refine own_lload X4 hx (hb hby d9_265) rfl (pc' := 267) rfl ?_
  refine own_bipush X4 hx (hb hby d9_267) (z := (43 : Int32)) (by decide) (pc' := 269) rfl ?_
  refine own_lushr X4 hx (hb hby d9_269) (pc' := 270) rfl ?_
  refine own_lor X4 hx (hb hby d9_270) (pc' := 271) rfl ?_
  rw [own_r21]
  refine own_lstore X4 hx (hb hby d9_271) (l' := #[vR ra, vR rb, vI u2, vI u3, vL ((own_rot (t2.1 + t2.2.1) (32 : Int32)) + ((own_rot (t2.2.2.2 ^^^ m2) (16 : Int32)) ^^^ (t2.2.2.1 + (t2.2.2.2 ^^^ m2)))), vS, vL ((own_rot t2.2.1 (13 : Int32)) ^^^ (t2.1 + t2.2.1)), vS, vL (t2.2.2.1 + (t2.2.2.2 ^^^ m2)), vS, vL (own_rot ((own_rot (t2.2.2.2 ^^^ m2) (16 : Int32)) ^^^ (t2.2.2.1 + (t2.2.2.2 ^^^ m2))) (21 : Int32)), vS, vI (u3 - u2), vI ((2 : Int32) + (1 : Int32)), vI (2 : Int32), vL m2, vS, vI oa2, vI u3, vI ob2]) rfl (pc' := 273) rfl ?_
  refine own_lload X4 hx (hb hby d9_273) rfl (pc' := 275) rfl ?_
  refine own_lload X4 hx (hb hby d9_275) rfl (pc' := 277) rfl ?_
  refine own_lxor X4 hx (hb hby d9_277) (pc' := 278) rfl ?_
  refine own_lstore X4 hx (hb hby d9_278) (l' := #[vR ra, vR rb, vI u2, vI u3, vL ((own_rot (t2.1 + t2.2.1) (32 : Int32)) + ((own_rot (t2.2.2.2 ^^^ m2) (16 : Int32)) ^^^ (t2.2.2.1 + (t2.2.2.2 ^^^ m2)))), vS, vL ((own_rot t2.2.1 (13 : Int32)) ^^^ (t2.1 + t2.2.1)), vS, vL (t2.2.2.1 + (t2.2.2.2 ^^^ m2)), vS, vL ((own_rot ((own_rot (t2.2.2.2 ^^^ m2) (16 : Int32)) ^^^ (t2.2.2.1 + (t2.2.2.2 ^^^ m2))) (21 : Int32)) ^^^ ((own_rot (t2.1 + t2.2.1) (32 : Int32)) + ((own_rot (t2.2.2.2 ^^^ m2) (16 : Int32)) ^^^ (t2.2.2.1 + (t2.2.2.2 ^^^ m2))))), vS, vI (u3 - u2), vI ((2 : Int32) + (1 : Int32)), vI (2 : Int32), vL m2, vS, vI oa2, vI u3, vI ob2]) rfl (pc' := 280) rfl ?_
  refine own_lload X4 hx (hb hby d9_280) rfl (pc' := 282) rfl ?_
  refine own_lload X4 hx (hb hby d9_282) rfl (pc' := 284) rfl ?_
  refine own_ladd X4 hx (hb hby d9_284) (pc' := 285) rfl ?_
  refine own_lstore X4 hx (hb hby d9_285) (l' := #[vR ra, vR rb, vI u2, vI u3, vL ((own_rot (t2.1 + t2.2.1) (32 : Int32)) + ((own_rot (t2.2.2.2 ^^^ m2) (16 : Int32)) ^^^ (t2.2.2.1 + (t2.2.2.2 ^^^ m2)))), vS, vL ((own_rot t2.2.1 (13 : Int32)) ^^^ (t2.1 + t2.2.1)), vS, vL ((t2.2.2.1 + (t2.2.2.2 ^^^ m2)) + ((own_rot t2.2.1 (13 : Int32)) ^^^ (t2.1 + t2.2.1))), vS, vL ((own_rot ((own_rot (t2.2.2.2 ^^^ m2) (16 : Int32)) ^^^ (t2.2.2.1 + (t2.2.2.2 ^^^ m2))) (21 : Int32)) ^^^ ((own_rot (t2.1 + t2.2.1) (32 : Int32)) + ((own_rot (t2.2.2.2 ^^^ m2) (16 : Int32)) ^^^ (t2.2.2.1 + (t2.2.2.2 ^^^ m2))))), vS, vI (u3 - u2), vI ((2 : Int32) + (1 : Int32)), vI (2 : Int32), vL m2, vS, vI oa2, vI u3, vI ob2]) rfl (pc' := 287) rfl ?_
  refine own_lload X4 hx (hb hby d9_287) rfl (pc' := 289) rfl ?_
  refine own_bipush X4 hx (hb hby d9_289) (z := (17 : Int32)) (by decide) (pc' := 291) rfl ?_
  refine own_lshl X4 hx (hb hby d9_291) (pc' := 292) rfl ?_
  refine own_lload X4 hx (hb hby d9_292) rfl (pc' := 294) rfl ?_
  refine own_bipush X4 hx (hb hby d9_294) (z := (47 : Int32)) (by decide) (pc' := 296) rfl ?_
  refine own_lushr X4 hx (hb hby d9_296) (pc' := 297) rfl ?_
  refine own_lor X4 hx (hb hby d9_297) (pc' := 298) rfl ?_
  rw [own_r17]
  refine own_lstore X4 hx (hb hby d9_298) (l' := #[vR ra, vR rb, vI u2, vI u3, vL ((own_rot (t2.1 + t2.2.1) (32 : Int32)) + ((own_rot (t2.2.2.2 ^^^ m2) (16 : Int32)) ^^^ (t2.2.2.1 + (t2.2.2.2 ^^^ m2)))), vS, vL (own_rot ((own_rot t2.2.1 (13 : Int32)) ^^^ (t2.1 + t2.2.1)) (17 : Int32)), vS, vL ((t2.2.2.1 + (t2.2.2.2 ^^^ m2)) + ((own_rot t2.2.1 (13 : Int32)) ^^^ (t2.1 + t2.2.1))), vS, vL ((own_rot ((own_rot (t2.2.2.2 ^^^ m2) (16 : Int32)) ^^^ (t2.2.2.1 + (t2.2.2.2 ^^^ m2))) (21 : Int32)) ^^^ ((own_rot (t2.1 + t2.2.1) (32 : Int32)) + ((own_rot (t2.2.2.2 ^^^ m2) (16 : Int32)) ^^^ (t2.2.2.1 + (t2.2.2.2 ^^^ m2))))), vS, vI (u3 - u2), vI ((2 : Int32) + (1 : Int32)), vI (2 : Int32), vL m2, vS, vI oa2, vI u3, vI ob2]) rfl (pc' := 300) rfl ?_
  refine own_lload X4 hx (hb hby d9_300) rfl (pc' := 302) rfl ?_
  refine own_lload X4 hx (hb hby d9_302) rfl (pc' := 304) rfl ?_
  refine own_lxor X4 hx (hb hby d9_304) (pc' := 305) rfl ?_
  refine own_lstore X4 hx (hb hby d9_305) (l' := #[vR ra, vR rb, vI u2, vI u3, vL ((own_rot (t2.1 + t2.2.1) (32 : Int32)) + ((own_rot (t2.2.2.2 ^^^ m2) (16 : Int32)) ^^^ (t2.2.2.1 + (t2.2.2.2 ^^^ m2)))), vS, vL ((own_rot ((own_rot t2.2.1 (13 : Int32)) ^^^ (t2.1 + t2.2.1)) (17 : Int32)) ^^^ ((t2.2.2.1 + (t2.2.2.2 ^^^ m2)) + ((own_rot t2.2.1 (13 : Int32)) ^^^ (t2.1 + t2.2.1)))), vS, vL ((t2.2.2.1 + (t2.2.2.2 ^^^ m2)) + ((own_rot t2.2.1 (13 : Int32)) ^^^ (t2.1 + t2.2.1))), vS, vL ((own_rot ((own_rot (t2.2.2.2 ^^^ m2) (16 : Int32)) ^^^ (t2.2.2.1 + (t2.2.2.2 ^^^ m2))) (21 : Int32)) ^^^ ((own_rot (t2.1 + t2.2.1) (32 : Int32)) + ((own_rot (t2.2.2.2 ^^^ m2) (16 : Int32)) ^^^ (t2.2.2.1 + (t2.2.2.2 ^^^ m2))))), vS, vI (u3 - u2), vI ((2 : Int32) + (1 : Int32)), vI (2 : Int32), vL m2, vS, vI oa2, vI u3, vI ob2]) rfl (pc' := 307) rfl ?_
  refine own_lload X4 hx (hb hby d9_307) rfl (pc' := 309) rfl ?_
  refine own_bipush X4 hx (hb hby d9_309) (z := (32 : Int32)) (by decide) (pc' := 311) rfl ?_
  refine own_lshl X4 hx (hb hby d9_311) (pc' := 312) rfl ?_
  refine own_lload X4 hx (hb hby d9_312) rfl (pc' := 314) rfl ?_
  refine own_bipush X4 hx (hb hby d9_314) (z := (32 : Int32)) (by decide) (pc' := 316) rfl ?_
  refine own_lushr X4 hx (hb hby d9_316) (pc' := 317) rfl ?_
  refine own_lor X4 hx (hb hby d9_317) (pc' := 318) rfl ?_
  rw [own_r32]
  refine own_lstore X4 hx (hb hby d9_318) (l' := #[vR ra, vR rb, vI u2, vI u3, vL ((own_rot (t2.1 + t2.2.1) (32 : Int32)) + ((own_rot (t2.2.2.2 ^^^ m2) (16 : Int32)) ^^^ (t2.2.2.1 + (t2.2.2.2 ^^^ m2)))), vS, vL ((own_rot ((own_rot t2.2.1 (13 : Int32)) ^^^ (t2.1 + t2.2.1)) (17 : Int32)) ^^^ ((t2.2.2.1 + (t2.2.2.2 ^^^ m2)) + ((own_rot t2.2.1 (13 : Int32)) ^^^ (t2.1 + t2.2.1)))), vS, vL (own_rot ((t2.2.2.1 + (t2.2.2.2 ^^^ m2)) + ((own_rot t2.2.1 (13 : Int32)) ^^^ (t2.1 + t2.2.1))) (32 : Int32)), vS, vL ((own_rot ((own_rot (t2.2.2.2 ^^^ m2) (16 : Int32)) ^^^ (t2.2.2.1 + (t2.2.2.2 ^^^ m2))) (21 : Int32)) ^^^ ((own_rot (t2.1 + t2.2.1) (32 : Int32)) + ((own_rot (t2.2.2.2 ^^^ m2) (16 : Int32)) ^^^ (t2.2.2.1 + (t2.2.2.2 ^^^ m2))))), vS, vI (u3 - u2), vI ((2 : Int32) + (1 : Int32)), vI (2 : Int32), vL m2, vS, vI oa2, vI u3, vI ob2]) rfl (pc' := 320) rfl ?_
  refine own_lload X4 hx (hb hby d9_320) rfl (pc' := 322) rfl ?_
  refine own_lload X4 hx (hb hby d9_322) rfl (pc' := 324) rfl ?_
  refine own_lxor X4 hx (hb hby d9_324) (pc' := 325) rfl ?_
  refine own_lstore X4 hx (hb hby d9_325) (l' := #[vR ra, vR rb, vI u2, vI u3, vL (((own_rot (t2.1 + t2.2.1) (32 : Int32)) + ((own_rot (t2.2.2.2 ^^^ m2) (16 : Int32)) ^^^ (t2.2.2.1 + (t2.2.2.2 ^^^ m2)))) ^^^ m2), vS, vL ((own_rot ((own_rot t2.2.1 (13 : Int32)) ^^^ (t2.1 + t2.2.1)) (17 : Int32)) ^^^ ((t2.2.2.1 + (t2.2.2.2 ^^^ m2)) + ((own_rot t2.2.1 (13 : Int32)) ^^^ (t2.1 + t2.2.1)))), vS, vL (own_rot ((t2.2.2.1 + (t2.2.2.2 ^^^ m2)) + ((own_rot t2.2.1 (13 : Int32)) ^^^ (t2.1 + t2.2.1))) (32 : Int32)), vS, vL ((own_rot ((own_rot (t2.2.2.2 ^^^ m2) (16 : Int32)) ^^^ (t2.2.2.1 + (t2.2.2.2 ^^^ m2))) (21 : Int32)) ^^^ ((own_rot (t2.1 + t2.2.1) (32 : Int32)) + ((own_rot (t2.2.2.2 ^^^ m2) (16 : Int32)) ^^^ (t2.2.2.1 + (t2.2.2.2 ^^^ m2))))), vS, vI (u3 - u2), vI ((2 : Int32) + (1 : Int32)), vI (2 : Int32), vL m2, vS, vI oa2, vI u3, vI ob2]) rfl (pc' := 327) rfl ?_
  refine own_iinc X4 hx (hb hby d9_327) rfl (z := (1 : Int32)) rfl (l' := #[vR ra, vR rb, vI u2, vI u3, vL (((own_rot (t2.1 + t2.2.1) (32 : Int32)) + ((own_rot (t2.2.2.2 ^^^ m2) (16 : Int32)) ^^^ (t2.2.2.1 + (t2.2.2.2 ^^^ m2)))) ^^^ m2), vS, vL ((own_rot ((own_rot t2.2.1 (13 : Int32)) ^^^ (t2.1 + t2.2.1)) (17 : Int32)) ^^^ ((t2.2.2.1 + (t2.2.2.2 ^^^ m2)) + ((own_rot t2.2.1 (13 : Int32)) ^^^ (t2.1 + t2.2.1)))), vS, vL (own_rot ((t2.2.2.1 + (t2.2.2.2 ^^^ m2)) + ((own_rot t2.2.1 (13 : Int32)) ^^^ (t2.1 + t2.2.1))) (32 : Int32)), vS, vL ((own_rot ((own_rot (t2.2.2.2 ^^^ m2) (16 : Int32)) ^^^ (t2.2.2.1 + (t2.2.2.2 ^^^ m2))) (21 : Int32)) ^^^ ((own_rot (t2.1 + t2.2.1) (32 : Int32)) + ((own_rot (t2.2.2.2 ^^^ m2) (16 : Int32)) ^^^ (t2.2.2.1 + (t2.2.2.2 ^^^ m2))))), vS, vI (u3 - u2), vI ((2 : Int32) + (1 : Int32)), vI ((2 : Int32) + (1 : Int32)), vL m2, vS, vI oa2, vI u3, vI ob2]) rfl (pc' := 330) rfl ?_
  refine own_goto X4 hx (hb hby d9_330) (by decide) (pc' := 57) rfl ?_
  show own_G p e below s _ _ _ (T4.setTop (mkF m 57 #[vR ra, vR rb, vI u2, vI u3, vL ((own_comp m2 t2).1), vS, vL ((own_comp m2 t2).2.1), vS, vL ((own_comp m2 t2).2.2.1), vS, vL ((own_comp m2 t2).2.2.2), vS, vI (u3 - u2), vI ((2 : Int32) + (1 : Int32)), vI (3 : Int32), vL m2, vS, vI oa2, vI u3, vI ob2] []))
  generalize ht3 : (own_comp m2 t2) = t3
  refine own_iload X4 hx (hb hby d9_57) rfl (pc' := 59) rfl ?_
  refine own_iload X4 hx (hb hby d9_59) rfl (pc' := 61) rfl ?_
  refine own_iconst X4 hx (hb hby d9_61) (z := (3 : Int32)) rfl (pc' := 62) rfl ?_
  refine own_iadd X4 hx (hb hby d9_62) (pc' := 63) rfl ?_
  refine own_icmpF X4 hx (hb hby d9_63) (by decide) (pc' := 66) rfl ?_
  refine own_lconst X4 hx (hb hby d9_66) (z := (0 : Int64)) (by decide) (pc' := 67) rfl ?_
  refine own_lstore X4 hx (hb hby d9_67) (l' := #[vR ra, vR rb, vI u2, vI u3, vL t3.1, vS, vL t3.2.1, vS, vL t3.2.2.1, vS, vL t3.2.2.2, vS, vI (u3 - u2), vI ((2 : Int32) + (1 : Int32)), vI (3 : Int32), vL (0 : Int64), vS, vI oa2, vI u3, vI ob2]) rfl (pc' := 69) rfl ?_
  refine own_iload X4 hx (hb hby d9_69) rfl (pc' := 71) rfl ?_
  refine own_iload X4 hx (hb hby d9_71) rfl (pc' := 73) rfl ?_
  refine own_icmpT X4 hx (hb hby d9_73) (by decide) (by decide) (pc' := 164) rfl ?_
  refine own_iload X4 hx (hb hby d9_164) rfl (pc' := 166) rfl ?_
  refine own_iload X4 hx (hb hby d9_166) rfl (pc' := 168) rfl ?_
  refine own_icmpF X4 hx (hb hby d9_168) (by decide) (pc' := 171) rfl ?_
  refine own_lload X4 hx (hb hby d9_171) rfl (pc' := 173) rfl ?_
  refine own_ldc2 X4 hx hZ hown (ow_49 hw) (hb hby d9_173) (pc' := 176) rfl ?_
  refine own_lxor X4 hx (hb hby d9_176) (pc' := 177) rfl ?_
  refine own_lstore X4 hx (hb hby d9_177) (l' := #[vR ra, vR rb, vI u2, vI u3, vL t3.1, vS, vL t3.2.1, vS, vL (t3.2.2.1 ^^^ (255 : Int64)), vS, vL t3.2.2.2, vS, vI (u3 - u2), vI ((2 : Int32) + (1 : Int32)), vI (3 : Int32), vL (0 : Int64), vS, vI oa2, vI u3, vI ob2]) rfl (pc' := 179) rfl ?_
  refine own_lload X4 hx (hb hby d9_179) rfl (pc' := 181) rfl ?_
  refine own_lload X4 hx (hb hby d9_181) rfl (pc' := 183) rfl ?_
  refine own_lxor X4 hx (hb hby d9_183) (pc' := 184) rfl ?_
  refine own_lstore X4 hx (hb hby d9_184) (l' := #[vR ra, vR rb, vI u2, vI u3, vL t3.1, vS, vL t3.2.1, vS, vL (t3.2.2.1 ^^^ (255 : Int64)), vS, vL (t3.2.2.2 ^^^ (0 : Int64)), vS, vI (u3 - u2), vI ((2 : Int32) + (1 : Int32)), vI (3 : Int32), vL (0 : Int64), vS, vI oa2, vI u3, vI ob2]) rfl (pc' := 186) rfl ?_
  refine own_lload X4 hx (hb hby d9_186) rfl (pc' := 188) rfl ?_
  refine own_lload X4 hx (hb hby d9_188) rfl (pc' := 190) rfl ?_
  refine own_ladd X4 hx (hb hby d9_190) (pc' := 191) rfl ?_
  refine own_lstore X4 hx (hb hby d9_191) (l' := #[vR ra, vR rb, vI u2, vI u3, vL (t3.1 + t3.2.1), vS, vL t3.2.1, vS, vL (t3.2.2.1 ^^^ (255 : Int64)), vS, vL (t3.2.2.2 ^^^ (0 : Int64)), vS, vI (u3 - u2), vI ((2 : Int32) + (1 : Int32)), vI (3 : Int32), vL (0 : Int64), vS, vI oa2, vI u3, vI ob2]) rfl (pc' := 193) rfl ?_
  refine own_lload X4 hx (hb hby d9_193) rfl (pc' := 195) rfl ?_
  refine own_bipush X4 hx (hb hby d9_195) (z := (13 : Int32)) (by decide) (pc' := 197) rfl ?_
  refine own_lshl X4 hx (hb hby d9_197) (pc' := 198) rfl ?_
  refine own_lload X4 hx (hb hby d9_198) rfl (pc' := 200) rfl ?_
  refine own_bipush X4 hx (hb hby d9_200) (z := (51 : Int32)) (by decide) (pc' := 202) rfl ?_
  refine own_lushr X4 hx (hb hby d9_202) (pc' := 203) rfl ?_
  refine own_lor X4 hx (hb hby d9_203) (pc' := 204) rfl ?_
  rw [own_r13]
  refine own_lstore X4 hx (hb hby d9_204) (l' := #[vR ra, vR rb, vI u2, vI u3, vL (t3.1 + t3.2.1), vS, vL (own_rot t3.2.1 (13 : Int32)), vS, vL (t3.2.2.1 ^^^ (255 : Int64)), vS, vL (t3.2.2.2 ^^^ (0 : Int64)), vS, vI (u3 - u2), vI ((2 : Int32) + (1 : Int32)), vI (3 : Int32), vL (0 : Int64), vS, vI oa2, vI u3, vI ob2]) rfl (pc' := 206) rfl ?_
  refine own_lload X4 hx (hb hby d9_206) rfl (pc' := 208) rfl ?_
  refine own_lload X4 hx (hb hby d9_208) rfl (pc' := 210) rfl ?_
  refine own_lxor X4 hx (hb hby d9_210) (pc' := 211) rfl ?_
  refine own_lstore X4 hx (hb hby d9_211) (l' := #[vR ra, vR rb, vI u2, vI u3, vL (t3.1 + t3.2.1), vS, vL ((own_rot t3.2.1 (13 : Int32)) ^^^ (t3.1 + t3.2.1)), vS, vL (t3.2.2.1 ^^^ (255 : Int64)), vS, vL (t3.2.2.2 ^^^ (0 : Int64)), vS, vI (u3 - u2), vI ((2 : Int32) + (1 : Int32)), vI (3 : Int32), vL (0 : Int64), vS, vI oa2, vI u3, vI ob2]) rfl (pc' := 213) rfl ?_
  refine own_lload X4 hx (hb hby d9_213) rfl (pc' := 215) rfl ?_
  refine own_bipush X4 hx (hb hby d9_215) (z := (32 : Int32)) (by decide) (pc' := 217) rfl ?_
  refine own_lshl X4 hx (hb hby d9_217) (pc' := 218) rfl ?_
  refine own_lload X4 hx (hb hby d9_218) rfl (pc' := 220) rfl ?_
  refine own_bipush X4 hx (hb hby d9_220) (z := (32 : Int32)) (by decide) (pc' := 222) rfl ?_
  refine own_lushr X4 hx (hb hby d9_222) (pc' := 223) rfl ?_
  refine own_lor X4 hx (hb hby d9_223) (pc' := 224) rfl ?_
  rw [own_r32]
  refine own_lstore X4 hx (hb hby d9_224) (l' := #[vR ra, vR rb, vI u2, vI u3, vL (own_rot (t3.1 + t3.2.1) (32 : Int32)), vS, vL ((own_rot t3.2.1 (13 : Int32)) ^^^ (t3.1 + t3.2.1)), vS, vL (t3.2.2.1 ^^^ (255 : Int64)), vS, vL (t3.2.2.2 ^^^ (0 : Int64)), vS, vI (u3 - u2), vI ((2 : Int32) + (1 : Int32)), vI (3 : Int32), vL (0 : Int64), vS, vI oa2, vI u3, vI ob2]) rfl (pc' := 226) rfl ?_
  refine own_lload X4 hx (hb hby d9_226) rfl (pc' := 228) rfl ?_
  refine own_lload X4 hx (hb hby d9_228) rfl (pc' := 230) rfl ?_
  refine own_ladd X4 hx (hb hby d9_230) (pc' := 231) rfl ?_
  refine own_lstore X4 hx (hb hby d9_231) (l' := #[vR ra, vR rb, vI u2, vI u3, vL (own_rot (t3.1 + t3.2.1) (32 : Int32)), vS, vL ((own_rot t3.2.1 (13 : Int32)) ^^^ (t3.1 + t3.2.1)), vS, vL ((t3.2.2.1 ^^^ (255 : Int64)) + (t3.2.2.2 ^^^ (0 : Int64))), vS, vL (t3.2.2.2 ^^^ (0 : Int64)), vS, vI (u3 - u2), vI ((2 : Int32) + (1 : Int32)), vI (3 : Int32), vL (0 : Int64), vS, vI oa2, vI u3, vI ob2]) rfl (pc' := 233) rfl ?_
  refine own_lload X4 hx (hb hby d9_233) rfl (pc' := 235) rfl ?_
  refine own_bipush X4 hx (hb hby d9_235) (z := (16 : Int32)) (by decide) (pc' := 237) rfl ?_
  refine own_lshl X4 hx (hb hby d9_237) (pc' := 238) rfl ?_
  refine own_lload X4 hx (hb hby d9_238) rfl (pc' := 240) rfl ?_
  refine own_bipush X4 hx (hb hby d9_240) (z := (48 : Int32)) (by decide) (pc' := 242) rfl ?_
  refine own_lushr X4 hx (hb hby d9_242) (pc' := 243) rfl ?_
  refine own_lor X4 hx (hb hby d9_243) (pc' := 244) rfl ?_
  rw [own_r16]
  refine own_lstore X4 hx (hb hby d9_244) (l' := #[vR ra, vR rb, vI u2, vI u3, vL (own_rot (t3.1 + t3.2.1) (32 : Int32)), vS, vL ((own_rot t3.2.1 (13 : Int32)) ^^^ (t3.1 + t3.2.1)), vS, vL ((t3.2.2.1 ^^^ (255 : Int64)) + (t3.2.2.2 ^^^ (0 : Int64))), vS, vL (own_rot (t3.2.2.2 ^^^ (0 : Int64)) (16 : Int32)), vS, vI (u3 - u2), vI ((2 : Int32) + (1 : Int32)), vI (3 : Int32), vL (0 : Int64), vS, vI oa2, vI u3, vI ob2]) rfl (pc' := 246) rfl ?_
  refine own_lload X4 hx (hb hby d9_246) rfl (pc' := 248) rfl ?_
  refine own_lload X4 hx (hb hby d9_248) rfl (pc' := 250) rfl ?_
  refine own_lxor X4 hx (hb hby d9_250) (pc' := 251) rfl ?_
  refine own_lstore X4 hx (hb hby d9_251) (l' := #[vR ra, vR rb, vI u2, vI u3, vL (own_rot (t3.1 + t3.2.1) (32 : Int32)), vS, vL ((own_rot t3.2.1 (13 : Int32)) ^^^ (t3.1 + t3.2.1)), vS, vL ((t3.2.2.1 ^^^ (255 : Int64)) + (t3.2.2.2 ^^^ (0 : Int64))), vS, vL ((own_rot (t3.2.2.2 ^^^ (0 : Int64)) (16 : Int32)) ^^^ ((t3.2.2.1 ^^^ (255 : Int64)) + (t3.2.2.2 ^^^ (0 : Int64)))), vS, vI (u3 - u2), vI ((2 : Int32) + (1 : Int32)), vI (3 : Int32), vL (0 : Int64), vS, vI oa2, vI u3, vI ob2]) rfl (pc' := 253) rfl ?_
  refine own_lload X4 hx (hb hby d9_253) rfl (pc' := 255) rfl ?_
  refine own_lload X4 hx (hb hby d9_255) rfl (pc' := 257) rfl ?_
  refine own_ladd X4 hx (hb hby d9_257) (pc' := 258) rfl ?_
  refine own_lstore X4 hx (hb hby d9_258) (l' := #[vR ra, vR rb, vI u2, vI u3, vL ((own_rot (t3.1 + t3.2.1) (32 : Int32)) + ((own_rot (t3.2.2.2 ^^^ (0 : Int64)) (16 : Int32)) ^^^ ((t3.2.2.1 ^^^ (255 : Int64)) + (t3.2.2.2 ^^^ (0 : Int64))))), vS, vL ((own_rot t3.2.1 (13 : Int32)) ^^^ (t3.1 + t3.2.1)), vS, vL ((t3.2.2.1 ^^^ (255 : Int64)) + (t3.2.2.2 ^^^ (0 : Int64))), vS, vL ((own_rot (t3.2.2.2 ^^^ (0 : Int64)) (16 : Int32)) ^^^ ((t3.2.2.1 ^^^ (255 : Int64)) + (t3.2.2.2 ^^^ (0 : Int64)))), vS, vI (u3 - u2), vI ((2 : Int32) + (1 : Int32)), vI (3 : Int32), vL (0 : Int64), vS, vI oa2, vI u3, vI ob2]) rfl (pc' := 260) rfl ?_
  refine own_lload X4 hx (hb hby d9_260) rfl (pc' := 262) rfl ?_
  refine own_bipush X4 hx (hb hby d9_262) (z := (21 : Int32)) (by decide) (pc' := 264) rfl ?_
  refine own_lshl X4 hx (hb hby d9_264) (pc' := 265) rfl ?_
  refine own_lload X4 hx (hb hby d9_265) rfl (pc' := 267) rfl ?_
  refine own_bipush X4 hx (hb hby d9_267) (z := (43 : Int32)) (by decide) (pc' := 269) rfl ?_
  refine own_lushr X4 hx (hb hby d9_269) (pc' := 270) rfl ?_
  refine own_lor X4 hx (hb hby d9_270) (pc' := 271) rfl ?_
  rw [own_r21]
  refine own_lstore X4 hx (hb hby d9_271) (l' := #[vR ra, vR rb, vI u2, vI u3, vL ((own_rot (t3.1 + t3.2.1) (32 : Int32)) + ((own_rot (t3.2.2.2 ^^^ (0 : Int64)) (16 : Int32)) ^^^ ((t3.2.2.1 ^^^ (255 : Int64)) + (t3.2.2.2 ^^^ (0 : Int64))))), vS, vL ((own_rot t3.2.1 (13 : Int32)) ^^^ (t3.1 + t3.2.1)), vS, vL ((t3.2.2.1 ^^^ (255 : Int64)) + (t3.2.2.2 ^^^ (0 : Int64))), vS, vL (own_rot ((own_rot (t3.2.2.2 ^^^ (0 : Int64)) (16 : Int32)) ^^^ ((t3.2.2.1 ^^^ (255 : Int64)) + (t3.2.2.2 ^^^ (0 : Int64)))) (21 : Int32)), vS, vI (u3 - u2), vI ((2 : Int32) + (1 : Int32)), vI (3 : Int32), vL (0 : Int64), vS, vI oa2, vI u3, vI ob2]) rfl (pc' := 273) rfl ?_
  refine own_lload X4 hx (hb hby d9_273) rfl (pc' := 275) rfl ?_
  refine own_lload X4 hx (hb hby d9_275) rfl (pc' := 277) rfl ?_
  refine own_lxor X4 hx (hb hby d9_277) (pc' := 278) rfl ?_
  refine own_lstore X4 hx (hb hby d9_278) (l' := #[vR ra, vR rb, vI u2, vI u3, vL ((own_rot (t3.1 + t3.2.1) (32 : Int32)) + ((own_rot (t3.2.2.2 ^^^ (0 : Int64)) (16 : Int32)) ^^^ ((t3.2.2.1 ^^^ (255 : Int64)) + (t3.2.2.2 ^^^ (0 : Int64))))), vS, vL ((own_rot t3.2.1 (13 : Int32)) ^^^ (t3.1 + t3.2.1)), vS, vL ((t3.2.2.1 ^^^ (255 : Int64)) + (t3.2.2.2 ^^^ (0 : Int64))), vS, vL ((own_rot ((own_rot (t3.2.2.2 ^^^ (0 : Int64)) (16 : Int32)) ^^^ ((t3.2.2.1 ^^^ (255 : Int64)) + (t3.2.2.2 ^^^ (0 : Int64)))) (21 : Int32)) ^^^ ((own_rot (t3.1 + t3.2.1) (32 : Int32)) + ((own_rot (t3.2.2.2 ^^^ (0 : Int64)) (16 : Int32)) ^^^ ((t3.2.2.1 ^^^ (255 : Int64)) + (t3.2.2.2 ^^^ (0 : Int64)))))), vS, vI (u3 - u2), vI ((2 : Int32) + (1 : Int32)), vI (3 : Int32), vL (0 : Int64), vS, vI oa2, vI u3, vI ob2]) rfl (pc' := 280) rfl ?_
  refine own_lload X4 hx (hb hby d9_280) rfl (pc' := 282) rfl ?_
  refine own_lload X4 hx (hb hby d9_282) rfl (pc' := 284) rfl ?_
  refine own_ladd X4 hx (hb hby d9_284) (pc' := 285) rfl ?_
  refine own_lstore X4 hx (hb hby d9_285) (l' := #[vR ra, vR rb, vI u2, vI u3, vL ((own_rot (t3.1 + t3.2.1) (32 : Int32)) + ((own_rot (t3.2.2.2 ^^^ (0 : Int64)) (16 : Int32)) ^^^ ((t3.2.2.1 ^^^ (255 : Int64)) + (t3.2.2.2 ^^^ (0 : Int64))))), vS, vL ((own_rot t3.2.1 (13 : Int32)) ^^^ (t3.1 + t3.2.1)), vS, vL (((t3.2.2.1 ^^^ (255 : Int64)) + (t3.2.2.2 ^^^ (0 : Int64))) + ((own_rot t3.2.1 (13 : Int32)) ^^^ (t3.1 + t3.2.1))), vS, vL ((own_rot ((own_rot (t3.2.2.2 ^^^ (0 : Int64)) (16 : Int32)) ^^^ ((t3.2.2.1 ^^^ (255 : Int64)) + (t3.2.2.2 ^^^ (0 : Int64)))) (21 : Int32)) ^^^ ((own_rot (t3.1 + t3.2.1) (32 : Int32)) + ((own_rot (t3.2.2.2 ^^^ (0 : Int64)) (16 : Int32)) ^^^ ((t3.2.2.1 ^^^ (255 : Int64)) + (t3.2.2.2 ^^^ (0 : Int64)))))), vS, vI (u3 - u2), vI ((2 : Int32) + (1 : Int32)), vI (3 : Int32), vL (0 : Int64), vS, vI oa2, vI u3, vI ob2]) rfl (pc' := 287) rfl ?_
  refine own_lload X4 hx (hb hby d9_287) rfl (pc' := 289) rfl ?_
  refine own_bipush X4 hx (hb hby d9_289) (z := (17 : Int32)) (by decide) (pc' := 291) rfl ?_
  refine own_lshl X4 hx (hb hby d9_291) (pc' := 292) rfl ?_
  refine own_lload X4 hx (hb hby d9_292) rfl (pc' := 294) rfl ?_
  refine own_bipush X4 hx (hb hby d9_294) (z := (47 : Int32)) (by decide) (pc' := 296) rfl ?_
  refine own_lushr X4 hx (hb hby d9_296) (pc' := 297) rfl ?_
  refine own_lor X4 hx (hb hby d9_297) (pc' := 298) rfl ?_
  rw [own_r17]
  refine own_lstore X4 hx (hb hby d9_298) (l' := #[vR ra, vR rb, vI u2, vI u3, vL ((own_rot (t3.1 + t3.2.1) (32 : Int32)) + ((own_rot (t3.2.2.2 ^^^ (0 : Int64)) (16 : Int32)) ^^^ ((t3.2.2.1 ^^^ (255 : Int64)) + (t3.2.2.2 ^^^ (0 : Int64))))), vS, vL (own_rot ((own_rot t3.2.1 (13 : Int32)) ^^^ (t3.1 + t3.2.1)) (17 : Int32)), vS, vL (((t3.2.2.1 ^^^ (255 : Int64)) + (t3.2.2.2 ^^^ (0 : Int64))) + ((own_rot t3.2.1 (13 : Int32)) ^^^ (t3.1 + t3.2.1))), vS, vL ((own_rot ((own_rot (t3.2.2.2 ^^^ (0 : Int64)) (16 : Int32)) ^^^ ((t3.2.2.1 ^^^ (255 : Int64)) + (t3.2.2.2 ^^^ (0 : Int64)))) (21 : Int32)) ^^^ ((own_rot (t3.1 + t3.2.1) (32 : Int32)) + ((own_rot (t3.2.2.2 ^^^ (0 : Int64)) (16 : Int32)) ^^^ ((t3.2.2.1 ^^^ (255 : Int64)) + (t3.2.2.2 ^^^ (0 : Int64)))))), vS, vI (u3 - u2), vI ((2 : Int32) + (1 : Int32)), vI (3 : Int32), vL (0 : Int64), vS, vI oa2, vI u3, vI ob2]) rfl (pc' := 300) rfl ?_
  refine own_lload X4 hx (hb hby d9_300) rfl (pc' := 302) rfl ?_
  refine own_lload X4 hx (hb hby d9_302) rfl (pc' := 304) rfl ?_
  refine own_lxor X4 hx (hb hby d9_304) (pc' := 305) rfl ?_
  refine own_lstore X4 hx (hb hby d9_305) (l' := #[vR ra, vR rb, vI u2, vI u3, vL ((own_rot (t3.1 + t3.2.1) (32 : Int32)) + ((own_rot (t3.2.2.2 ^^^ (0 : Int64)) (16 : Int32)) ^^^ ((t3.2.2.1 ^^^ (255 : Int64)) + (t3.2.2.2 ^^^ (0 : Int64))))), vS, vL ((own_rot ((own_rot t3.2.1 (13 : Int32)) ^^^ (t3.1 + t3.2.1)) (17 : Int32)) ^^^ (((t3.2.2.1 ^^^ (255 : Int64)) + (t3.2.2.2 ^^^ (0 : Int64))) + ((own_rot t3.2.1 (13 : Int32)) ^^^ (t3.1 + t3.2.1)))), vS, vL (((t3.2.2.1 ^^^ (255 : Int64)) + (t3.2.2.2 ^^^ (0 : Int64))) + ((own_rot t3.2.1 (13 : Int32)) ^^^ (t3.1 + t3.2.1))), vS, vL ((own_rot ((own_rot (t3.2.2.2 ^^^ (0 : Int64)) (16 : Int32)) ^^^ ((t3.2.2.1 ^^^ (255 : Int64)) + (t3.2.2.2 ^^^ (0 : Int64)))) (21 : Int32)) ^^^ ((own_rot (t3.1 + t3.2.1) (32 : Int32)) + ((own_rot (t3.2.2.2 ^^^ (0 : Int64)) (16 : Int32)) ^^^ ((t3.2.2.1 ^^^ (255 : Int64)) + (t3.2.2.2 ^^^ (0 : Int64)))))), vS, vI (u3 - u2), vI ((2 : Int32) + (1 : Int32)), vI (3 : Int32), vL (0 : Int64), vS, vI oa2, vI u3, vI ob2]) rfl (pc' := 307) rfl ?_
  refine own_lload X4 hx (hb hby d9_307) rfl (pc' := 309) rfl ?_
  refine own_bipush X4 hx (hb hby d9_309) (z := (32 : Int32)) (by decide) (pc' := 311) rfl ?_
  refine own_lshl X4 hx (hb hby d9_311) (pc' := 312) rfl ?_
  refine own_lload X4 hx (hb hby d9_312) rfl (pc' := 314) rfl ?_
  refine own_bipush X4 hx (hb hby d9_314) (z := (32 : Int32)) (by decide) (pc' := 316) rfl ?_
  refine own_lushr X4 hx (hb hby d9_316) (pc' := 317) rfl ?_
  refine own_lor X4 hx (hb hby d9_317) (pc' := 318) rfl ?_
  rw [own_r32]
  refine own_lstore X4 hx (hb hby d9_318) (l' := #[vR ra, vR rb, vI u2, vI u3, vL ((own_rot (t3.1 + t3.2.1) (32 : Int32)) + ((own_rot (t3.2.2.2 ^^^ (0 : Int64)) (16 : Int32)) ^^^ ((t3.2.2.1 ^^^ (255 : Int64)) + (t3.2.2.2 ^^^ (0 : Int64))))), vS, vL ((own_rot ((own_rot t3.2.1 (13 : Int32)) ^^^ (t3.1 + t3.2.1)) (17 : Int32)) ^^^ (((t3.2.2.1 ^^^ (255 : Int64)) + (t3.2.2.2 ^^^ (0 : Int64))) + ((own_rot t3.2.1 (13 : Int32)) ^^^ (t3.1 + t3.2.1)))), vS, vL (own_rot (((t3.2.2.1 ^^^ (255 : Int64)) + (t3.2.2.2 ^^^ (0 : Int64))) + ((own_rot t3.2.1 (13 : Int32)) ^^^ (t3.1 + t3.2.1))) (32 : Int32)), vS, vL ((own_rot ((own_rot (t3.2.2.2 ^^^ (0 : Int64)) (16 : Int32)) ^^^ ((t3.2.2.1 ^^^ (255 : Int64)) + (t3.2.2.2 ^^^ (0 : Int64)))) (21 : Int32)) ^^^ ((own_rot (t3.1 + t3.2.1) (32 : Int32)) + ((own_rot (t3.2.2.2 ^^^ (0 : Int64)) (16 : Int32)) ^^^ ((t3.2.2.1 ^^^ (255 : Int64)) + (t3.2.2.2 ^^^ (0 : Int64)))))), vS, vI (u3 - u2), vI ((2 : Int32) + (1 : Int32)), vI (3 : Int32), vL (0 : Int64), vS, vI oa2, vI u3, vI ob2]) rfl (pc' := 320) rfl ?_
  refine own_lload X4 hx (hb hby d9_320) rfl (pc' := 322) rfl ?_
  refine own_lload X4 hx (hb hby d9_322) rfl (pc' := 324) rfl ?_
  refine own_lxor X4 hx (hb hby d9_324) (pc' := 325) rfl ?_
  refine own_lstore X4 hx (hb hby d9_325) (l' := #[vR ra, vR rb, vI u2, vI u3, vL (((own_rot (t3.1 + t3.2.1) (32 : Int32)) + ((own_rot (t3.2.2.2 ^^^ (0 : Int64)) (16 : Int32)) ^^^ ((t3.2.2.1 ^^^ (255 : Int64)) + (t3.2.2.2 ^^^ (0 : Int64))))) ^^^ (0 : Int64)), vS, vL ((own_rot ((own_rot t3.2.1 (13 : Int32)) ^^^ (t3.1 + t3.2.1)) (17 : Int32)) ^^^ (((t3.2.2.1 ^^^ (255 : Int64)) + (t3.2.2.2 ^^^ (0 : Int64))) + ((own_rot t3.2.1 (13 : Int32)) ^^^ (t3.1 + t3.2.1)))), vS, vL (own_rot (((t3.2.2.1 ^^^ (255 : Int64)) + (t3.2.2.2 ^^^ (0 : Int64))) + ((own_rot t3.2.1 (13 : Int32)) ^^^ (t3.1 + t3.2.1))) (32 : Int32)), vS, vL ((own_rot ((own_rot (t3.2.2.2 ^^^ (0 : Int64)) (16 : Int32)) ^^^ ((t3.2.2.1 ^^^ (255 : Int64)) + (t3.2.2.2 ^^^ (0 : Int64)))) (21 : Int32)) ^^^ ((own_rot (t3.1 + t3.2.1) (32 : Int32)) + ((own_rot (t3.2.2.2 ^^^ (0 : Int64)) (16 : Int32)) ^^^ ((t3.2.2.1 ^^^ (255 : Int64)) + (t3.2.2.2 ^^^ (0 : Int64)))))), vS, vI (u3 - u2), vI ((2 : Int32) + (1 : Int32)), vI (3 : Int32), vL (0 : Int64), vS, vI oa2, vI u3, vI ob2]) rfl (pc' := 327) rfl ?_
  refine own_iinc X4 hx (hb hby d9_327) rfl (z := (1 : Int32)) rfl (l' := #[vR ra, vR rb, vI u2, vI u3, vL (((own_rot (t3.1 + t3.2.1) (32 : Int32)) + ((own_rot (t3.2.2.2 ^^^ (0 : Int64)) (16 : Int32)) ^^^ ((t3.2.2.1 ^^^ (255 : Int64)) + (t3.2.2.2 ^^^ (0 : Int64))))) ^^^ (0 : Int64)), vS, vL ((own_rot ((own_rot t3.2.1 (13 : Int32)) ^^^ (t3.1 + t3.2.1)) (17 : Int32)) ^^^ (((t3.2.2.1 ^^^ (255 : Int64)) + (t3.2.2.2 ^^^ (0 : Int64))) + ((own_rot t3.2.1 (13 : Int32)) ^^^ (t3.1 + t3.2.1)))), vS, vL (own_rot (((t3.2.2.1 ^^^ (255 : Int64)) + (t3.2.2.2 ^^^ (0 : Int64))) + ((own_rot t3.2.1 (13 : Int32)) ^^^ (t3.1 + t3.2.1))) (32 : Int32)), vS, vL ((own_rot ((own_rot (t3.2.2.2 ^^^ (0 : Int64)) (16 : Int32)) ^^^ ((t3.2.2.1 ^^^ (255 : Int64)) + (t3.2.2.2 ^^^ (0 : Int64)))) (21 : Int32)) ^^^ ((own_rot (t3.1 + t3.2.1) (32 : Int32)) + ((own_rot (t3.2.2.2 ^^^ (0 : Int64)) (16 : Int32)) ^^^ ((t3.2.2.1 ^^^ (255 : Int64)) + (t3.2.2.2 ^^^ (0 : Int64)))))), vS, vI (u3 - u2), vI ((2 : Int32) + (1 : Int32)), vI ((3 : Int32) + (1 : Int32)), vL (0 : Int64), vS, vI oa2, vI u3, vI ob2]) rfl (pc' := 330) rfl ?_
  refine own_goto X4 hx (hb hby d9_330) (by decide) (pc' := 57) rfl ?_
  show own_G p e below s _ _ _ (T4.setTop (mkF m 57 #[vR ra, vR rb, vI u2, vI u3, vL ((own_comp (0 : Int64) (own_ff t3)).1), vS, vL ((own_comp (0 : Int64) (own_ff t3)).2.1), vS, vL ((own_comp (0 : Int64) (own_ff t3)).2.2.1), vS, vL ((own_comp (0 : Int64) (own_ff t3)).2.2.2), vS, vI (u3 - u2), vI ((2 : Int32) + (1 : Int32)), vI (4 : Int32), vL (0 : Int64), vS, vI oa2, vI u3, vI ob2] []))
  generalize ht4 : (own_comp (0 : Int64) (own_ff t3)) = t4
  refine own_iload X4 hx (hb hby d9_57) rfl (pc' := 59) rfl ?_
  refine own_iload X4 hx (hb hby d9_59) rfl (pc' := 61) rfl ?_
  refine own_iconst X4 hx (hb hby d9_61) (z := (3 : Int32)) rfl (pc' := 62) rfl ?_
  refine own_iadd X4 hx (hb hby d9_62) (pc' := 63) rfl ?_
  refine own_icmpF X4 hx (hb hby d9_63) (by decide) (pc' := 66) rfl ?_
  refine own_lconst X4 hx (hb hby d9_66) (z := (0 : Int64)) (by decide) (pc' := 67) rfl ?_
  refine own_lstore X4 hx (hb hby d9_67) (l' := #[vR ra, vR rb, vI u2, vI u3, vL t4.1, vS, vL t4.2.1, vS, vL t4.2.2.1, vS, vL t4.2.2.2, vS, vI (u3 - u2), vI ((2 : Int32) + (1 : Int32)), vI (4 : Int32), vL (0 : Int64), vS, vI oa2, vI u3, vI ob2]) rfl (pc' := 69) rfl ?_
  refine own_iload X4 hx (hb hby d9_69) rfl (pc' := 71) rfl ?_
  refine own_iload X4 hx (hb hby d9_71) rfl (pc' := 73) rfl ?_
  refine own_icmpT X4 hx (hb hby d9_73) (by decide) (by decide) (pc' := 164) rfl ?_
  refine own_iload X4 hx (hb hby d9_164) rfl (pc' := 166) rfl ?_
  refine own_iload X4 hx (hb hby d9_166) rfl (pc' := 168) rfl ?_
  refine own_icmpT X4 hx (hb hby d9_168) (by decide) (by decide) (pc' := 179) rfl ?_
  refine own_lload X4 hx (hb hby d9_179) rfl (pc' := 181) rfl ?_
  refine own_lload X4 hx (hb hby d9_181) rfl (pc' := 183) rfl ?_
  refine own_lxor X4 hx (hb hby d9_183) (pc' := 184) rfl ?_
  refine own_lstore X4 hx (hb hby d9_184) (l' := #[vR ra, vR rb, vI u2, vI u3, vL t4.1, vS, vL t4.2.1, vS, vL t4.2.2.1, vS, vL (t4.2.2.2 ^^^ (0 : Int64)), vS, vI (u3 - u2), vI ((2 : Int32) + (1 : Int32)), vI (4 : Int32), vL (0 : Int64), vS, vI oa2, vI u3, vI ob2]) rfl (pc' := 186) rfl ?_
  refine own_lload X4 hx (hb hby d9_186) rfl (pc' := 188) rfl ?_
  refine own_lload X4 hx (hb hby d9_188) rfl (pc' := 190) rfl ?_
  refine own_ladd X4 hx (hb hby d9_190) (pc' := 191) rfl ?_
  refine own_lstore X4 hx (hb hby d9_191) (l' := #[vR ra, vR rb, vI u2, vI u3, vL (t4.1 + t4.2.1), vS, vL t4.2.1, vS, vL t4.2.2.1, vS, vL (t4.2.2.2 ^^^ (0 : Int64)), vS, vI (u3 - u2), vI ((2 : Int32) + (1 : Int32)), vI (4 : Int32), vL (0 : Int64), vS, vI oa2, vI u3, vI ob2]) rfl (pc' := 193) rfl ?_
  refine own_lload X4 hx (hb hby d9_193) rfl (pc' := 195) rfl ?_
  refine own_bipush X4 hx (hb hby d9_195) (z := (13 : Int32)) (by decide) (pc' := 197) rfl ?_
  refine own_lshl X4 hx (hb hby d9_197) (pc' := 198) rfl ?_
  refine own_lload X4 hx (hb hby d9_198) rfl (pc' := 200) rfl ?_
  refine own_bipush X4 hx (hb hby d9_200) (z := (51 : Int32)) (by decide) (pc' := 202) rfl ?_
  refine own_lushr X4 hx (hb hby d9_202) (pc' := 203) rfl ?_
  refine own_lor X4 hx (hb hby d9_203) (pc' := 204) rfl ?_
  rw [own_r13]
  refine own_lstore X4 hx (hb hby d9_204) (l' := #[vR ra, vR rb, vI u2, vI u3, vL (t4.1 + t4.2.1), vS, vL (own_rot t4.2.1 (13 : Int32)), vS, vL t4.2.2.1, vS, vL (t4.2.2.2 ^^^ (0 : Int64)), vS, vI (u3 - u2), vI ((2 : Int32) + (1 : Int32)), vI (4 : Int32), vL (0 : Int64), vS, vI oa2, vI u3, vI ob2]) rfl (pc' := 206) rfl ?_
  refine own_lload X4 hx (hb hby d9_206) rfl (pc' := 208) rfl ?_
  refine own_lload X4 hx (hb hby d9_208) rfl (pc' := 210) rfl ?_
  refine own_lxor X4 hx (hb hby d9_210) (pc' := 211) rfl ?_
  refine own_lstore X4 hx (hb hby d9_211) (l' := #[vR ra, vR rb, vI u2, vI u3, vL (t4.1 + t4.2.1), vS, vL ((own_rot t4.2.1 (13 : Int32)) ^^^ (t4.1 + t4.2.1)), vS, vL t4.2.2.1, vS, vL (t4.2.2.2 ^^^ (0 : Int64)), vS, vI (u3 - u2), vI ((2 : Int32) + (1 : Int32)), vI (4 : Int32), vL (0 : Int64), vS, vI oa2, vI u3, vI ob2]) rfl (pc' := 213) rfl ?_
  refine own_lload X4 hx (hb hby d9_213) rfl (pc' := 215) rfl ?_
  refine own_bipush X4 hx (hb hby d9_215) (z := (32 : Int32)) (by decide) (pc' := 217) rfl ?_
  refine own_lshl X4 hx (hb hby d9_217) (pc' := 218) rfl ?_
  refine own_lload X4 hx (hb hby d9_218) rfl (pc' := 220) rfl ?_
  refine own_bipush X4 hx (hb hby d9_220) (z := (32 : Int32)) (by decide) (pc' := 222) rfl ?_
  refine own_lushr X4 hx (hb hby d9_222) (pc' := 223) rfl ?_
  refine own_lor X4 hx (hb hby d9_223) (pc' := 224) rfl ?_
  rw [own_r32]
  refine own_lstore X4 hx (hb hby d9_224) (l' := #[vR ra, vR rb, vI u2, vI u3, vL (own_rot (t4.1 + t4.2.1) (32 : Int32)), vS, vL ((own_rot t4.2.1 (13 : Int32)) ^^^ (t4.1 + t4.2.1)), vS, vL t4.2.2.1, vS, vL (t4.2.2.2 ^^^ (0 : Int64)), vS, vI (u3 - u2), vI ((2 : Int32) + (1 : Int32)), vI (4 : Int32), vL (0 : Int64), vS, vI oa2, vI u3, vI ob2]) rfl (pc' := 226) rfl ?_
  refine own_lload X4 hx (hb hby d9_226) rfl (pc' := 228) rfl ?_
  refine own_lload X4 hx (hb hby d9_228) rfl (pc' := 230) rfl ?_
  refine own_ladd X4 hx (hb hby d9_230) (pc' := 231) rfl ?_
  refine own_lstore X4 hx (hb hby d9_231) (l' := #[vR ra, vR rb, vI u2, vI u3, vL (own_rot (t4.1 + t4.2.1) (32 : Int32)), vS, vL ((own_rot t4.2.1 (13 : Int32)) ^^^ (t4.1 + t4.2.1)), vS, vL (t4.2.2.1 + (t4.2.2.2 ^^^ (0 : Int64))), vS, vL (t4.2.2.2 ^^^ (0 : Int64)), vS, vI (u3 - u2), vI ((2 : Int32) + (1 : Int32)), vI (4 : Int32), vL (0 : Int64), vS, vI oa2, vI u3, vI ob2]) rfl (pc' := 233) rfl ?_
  refine own_lload X4 hx (hb hby d9_233) rfl (pc' := 235) rfl ?_
  refine own_bipush X4 hx (hb hby d9_235) (z := (16 : Int32)) (by decide) (pc' := 237) rfl ?_
  refine own_lshl X4 hx (hb hby d9_237) (pc' := 238) rfl ?_
  refine own_lload X4 hx (hb hby d9_238) rfl (pc' := 240) rfl ?_
  refine own_bipush X4 hx (hb hby d9_240) (z := (48 : Int32)) (by decide) (pc' := 242) rfl ?_
  refine own_lushr X4 hx (hb hby d9_242) (pc' := 243) rfl ?_
  refine own_lor X4 hx (hb hby d9_243) (pc' := 244) rfl ?_
  rw [own_r16]
  refine own_lstore X4 hx (hb hby d9_244) (l' := #[vR ra, vR rb, vI u2, vI u3, vL (own_rot (t4.1 + t4.2.1) (32 : Int32)), vS, vL ((own_rot t4.2.1 (13 : Int32)) ^^^ (t4.1 + t4.2.1)), vS, vL (t4.2.2.1 + (t4.2.2.2 ^^^ (0 : Int64))), vS, vL (own_rot (t4.2.2.2 ^^^ (0 : Int64)) (16 : Int32)), vS, vI (u3 - u2), vI ((2 : Int32) + (1 : Int32)), vI (4 : Int32), vL (0 : Int64), vS, vI oa2, vI u3, vI ob2]) rfl (pc' := 246) rfl ?_
  refine own_lload X4 hx (hb hby d9_246) rfl (pc' := 248) rfl ?_
  refine own_lload X4 hx (hb hby d9_248) rfl (pc' := 250) rfl ?_
  refine own_lxor X4 hx (hb hby d9_250) (pc' := 251) rfl ?_
  refine own_lstore X4 hx (hb hby d9_251) (l' := #[vR ra, vR rb, vI u2, vI u3, vL (own_rot (t4.1 + t4.2.1) (32 : Int32)), vS, vL ((own_rot t4.2.1 (13 : Int32)) ^^^ (t4.1 + t4.2.1)), vS, vL (t4.2.2.1 + (t4.2.2.2 ^^^ (0 : Int64))), vS, vL ((own_rot (t4.2.2.2 ^^^ (0 : Int64)) (16 : Int32)) ^^^ (t4.2.2.1 + (t4.2.2.2 ^^^ (0 : Int64)))), vS, vI (u3 - u2), vI ((2 : Int32) + (1 : Int32)), vI (4 : Int32), vL (0 : Int64), vS, vI oa2, vI u3, vI ob2]) rfl (pc' := 253) rfl ?_
  refine own_lload X4 hx (hb hby d9_253) rfl (pc' := 255) rfl ?_
  refine own_lload X4 hx (hb hby d9_255) rfl (pc' := 257) rfl ?_
  refine own_ladd X4 hx (hb hby d9_257) (pc' := 258) rfl ?_
  refine own_lstore X4 hx (hb hby d9_258) (l' := #[vR ra, vR rb, vI u2, vI u3, vL ((own_rot (t4.1 + t4.2.1) (32 : Int32)) + ((own_rot (t4.2.2.2 ^^^ (0 : Int64)) (16 : Int32)) ^^^ (t4.2.2.1 + (t4.2.2.2 ^^^ (0 : Int64))))), vS, vL ((own_rot t4.2.1 (13 : Int32)) ^^^ (t4.1 + t4.2.1)), vS, vL (t4.2.2.1 + (t4.2.2.2 ^^^ (0 : Int64))), vS, vL ((own_rot (t4.2.2.2 ^^^ (0 : Int64)) (16 : Int32)) ^^^ (t4.2.2.1 + (t4.2.2.2 ^^^ (0 : Int64)))), vS, vI (u3 - u2), vI ((2 : Int32) + (1 : Int32)), vI (4 : Int32), vL (0 : Int64), vS, vI oa2, vI u3, vI ob2]) rfl (pc' := 260) rfl ?_
  refine own_lload X4 hx (hb hby d9_260) rfl (pc' := 262) rfl ?_
  refine own_bipush X4 hx (hb hby d9_262) (z := (21 : Int32)) (by decide) (pc' := 264) rfl ?_
  refine own_lshl X4 hx (hb hby d9_264) (pc' := 265) rfl ?_
  refine own_lload X4 hx (hb hby d9_265) rfl (pc' := 267) rfl ?_
  refine own_bipush X4 hx (hb hby d9_267) (z := (43 : Int32)) (by decide) (pc' := 269) rfl ?_
  refine own_lushr X4 hx (hb hby d9_269) (pc' := 270) rfl ?_
  refine own_lor X4 hx (hb hby d9_270) (pc' := 271) rfl ?_
  rw [own_r21]
  refine own_lstore X4 hx (hb hby d9_271) (l' := #[vR ra, vR rb, vI u2, vI u3, vL ((own_rot (t4.1 + t4.2.1) (32 : Int32)) + ((own_rot (t4.2.2.2 ^^^ (0 : Int64)) (16 : Int32)) ^^^ (t4.2.2.1 + (t4.2.2.2 ^^^ (0 : Int64))))), vS, vL ((own_rot t4.2.1 (13 : Int32)) ^^^ (t4.1 + t4.2.1)), vS, vL (t4.2.2.1 + (t4.2.2.2 ^^^ (0 : Int64))), vS, vL (own_rot ((own_rot (t4.2.2.2 ^^^ (0 : Int64)) (16 : Int32)) ^^^ (t4.2.2.1 + (t4.2.2.2 ^^^ (0 : Int64)))) (21 : Int32)), vS, vI (u3 - u2), vI ((2 : Int32) + (1 : Int32)), vI (4 : Int32), vL (0 : Int64), vS, vI oa2, vI u3, vI ob2]) rfl (pc' := 273) rfl ?_
  refine own_lload X4 hx (hb hby d9_273) rfl (pc' := 275) rfl ?_
  refine own_lload X4 hx (hb hby d9_275) rfl (pc' := 277) rfl ?_
  refine own_lxor X4 hx (hb hby d9_277) (pc' := 278) rfl ?_
  refine own_lstore X4 hx (hb hby d9_278) (l' := #[vR ra, vR rb, vI u2, vI u3, vL ((own_rot (t4.1 + t4.2.1) (32 : Int32)) + ((own_rot (t4.2.2.2 ^^^ (0 : Int64)) (16 : Int32)) ^^^ (t4.2.2.1 + (t4.2.2.2 ^^^ (0 : Int64))))), vS, vL ((own_rot t4.2.1 (13 : Int32)) ^^^ (t4.1 + t4.2.1)), vS, vL (t4.2.2.1 + (t4.2.2.2 ^^^ (0 : Int64))), vS, vL ((own_rot ((own_rot (t4.2.2.2 ^^^ (0 : Int64)) (16 : Int32)) ^^^ (t4.2.2.1 + (t4.2.2.2 ^^^ (0 : Int64)))) (21 : Int32)) ^^^ ((own_rot (t4.1 + t4.2.1) (32 : Int32)) + ((own_rot (t4.2.2.2 ^^^ (0 : Int64)) (16 : Int32)) ^^^ (t4.2.2.1 + (t4.2.2.2 ^^^ (0 : Int64)))))), vS, vI (u3 - u2), vI ((2 : Int32) + (1 : Int32)), vI (4 : Int32), vL (0 : Int64), vS, vI oa2, vI u3, vI ob2]) rfl (pc' := 280) rfl ?_
  refine own_lload X4 hx (hb hby d9_280) rfl (pc' := 282) rfl ?_
  refine own_lload X4 hx (hb hby d9_282) rfl (pc' := 284) rfl ?_
  refine own_ladd X4 hx (hb hby d9_284) (pc' := 285) rfl ?_
  refine own_lstore X4 hx (hb hby d9_285) (l' := #[vR ra, vR rb, vI u2, vI u3, vL ((own_rot (t4.1 + t4.2.1) (32 : Int32)) + ((own_rot (t4.2.2.2 ^^^ (0 : Int64)) (16 : Int32)) ^^^ (t4.2.2.1 + (t4.2.2.2 ^^^ (0 : Int64))))), vS, vL ((own_rot t4.2.1 (13 : Int32)) ^^^ (t4.1 + t4.2.1)), vS, vL ((t4.2.2.1 + (t4.2.2.2 ^^^ (0 : Int64))) + ((own_rot t4.2.1 (13 : Int32)) ^^^ (t4.1 + t4.2.1))), vS, vL ((own_rot ((own_rot (t4.2.2.2 ^^^ (0 : Int64)) (16 : Int32)) ^^^ (t4.2.2.1 + (t4.2.2.2 ^^^ (0 : Int64)))) (21 : Int32)) ^^^ ((own_rot (t4.1 + t4.2.1) (32 : Int32)) + ((own_rot (t4.2.2.2 ^^^ (0 : Int64)) (16 : Int32)) ^^^ (t4.2.2.1 + (t4.2.2.2 ^^^ (0 : Int64)))))), vS, vI (u3 - u2), vI ((2 : Int32) + (1 : Int32)), vI (4 : Int32), vL (0 : Int64), vS, vI oa2, vI u3, vI ob2]) rfl (pc' := 287) rfl ?_
  refine own_lload X4 hx (hb hby d9_287) rfl (pc' := 289) rfl ?_
  refine own_bipush X4 hx (hb hby d9_289) (z := (17 : Int32)) (by decide) (pc' := 291) rfl ?_
  refine own_lshl X4 hx (hb hby d9_291) (pc' := 292) rfl ?_
  refine own_lload X4 hx (hb hby d9_292) rfl (pc' := 294) rfl ?_
  refine own_bipush X4 hx (hb hby d9_294) (z := (47 : Int32)) (by decide) (pc' := 296) rfl ?_
  refine own_lushr X4 hx (hb hby d9_296) (pc' := 297) rfl ?_
  refine own_lor X4 hx (hb hby d9_297) (pc' := 298) rfl ?_
  rw [own_r17]
  refine own_lstore X4 hx (hb hby d9_298) (l' := #[vR ra, vR rb, vI u2, vI u3, vL ((own_rot (t4.1 + t4.2.1) (32 : Int32)) + ((own_rot (t4.2.2.2 ^^^ (0 : Int64)) (16 : Int32)) ^^^ (t4.2.2.1 + (t4.2.2.2 ^^^ (0 : Int64))))), vS, vL (own_rot ((own_rot t4.2.1 (13 : Int32)) ^^^ (t4.1 + t4.2.1)) (17 : Int32)), vS, vL ((t4.2.2.1 + (t4.2.2.2 ^^^ (0 : Int64))) + ((own_rot t4.2.1 (13 : Int32)) ^^^ (t4.1 + t4.2.1))), vS, vL ((own_rot ((own_rot (t4.2.2.2 ^^^ (0 : Int64)) (16 : Int32)) ^^^ (t4.2.2.1 + (t4.2.2.2 ^^^ (0 : Int64)))) (21 : Int32)) ^^^ ((own_rot (t4.1 + t4.2.1) (32 : Int32)) + ((own_rot (t4.2.2.2 ^^^ (0 : Int64)) (16 : Int32)) ^^^ (t4.2.2.1 + (t4.2.2.2 ^^^ (0 : Int64)))))), vS, vI (u3 - u2), vI ((2 : Int32) + (1 : Int32)), vI (4 : Int32), vL (0 : Int64), vS, vI oa2, vI u3, vI ob2]) rfl (pc' := 300) rfl ?_
  refine own_lload X4 hx (hb hby d9_300) rfl (pc' := 302) rfl ?_
  refine own_lload X4 hx (hb hby d9_302) rfl (pc' := 304) rfl ?_
  refine own_lxor X4 hx (hb hby d9_304) (pc' := 305) rfl ?_
  refine own_lstore X4 hx (hb hby d9_305) (l' := #[vR ra, vR rb, vI u2, vI u3, vL ((own_rot (t4.1 + t4.2.1) (32 : Int32)) + ((own_rot (t4.2.2.2 ^^^ (0 : Int64)) (16 : Int32)) ^^^ (t4.2.2.1 + (t4.2.2.2 ^^^ (0 : Int64))))), vS, vL ((own_rot ((own_rot t4.2.1 (13 : Int32)) ^^^ (t4.1 + t4.2.1)) (17 : Int32)) ^^^ ((t4.2.2.1 + (t4.2.2.2 ^^^ (0 : Int64))) + ((own_rot t4.2.1 (13 : Int32)) ^^^ (t4.1 + t4.2.1)))), vS, vL ((t4.2.2.1 + (t4.2.2.2 ^^^ (0 : Int64))) + ((own_rot t4.2.1 (13 : Int32)) ^^^ (t4.1 + t4.2.1))), vS, vL ((own_rot ((own_rot (t4.2.2.2 ^^^ (0 : Int64)) (16 : Int32)) ^^^ (t4.2.2.1 + (t4.2.2.2 ^^^ (0 : Int64)))) (21 : Int32)) ^^^ ((own_rot (t4.1 + t4.2.1) (32 : Int32)) + ((own_rot (t4.2.2.2 ^^^ (0 : Int64)) (16 : Int32)) ^^^ (t4.2.2.1 + (t4.2.2.2 ^^^ (0 : Int64)))))), vS, vI (u3 - u2), vI ((2 : Int32) + (1 : Int32)), vI (4 : Int32), vL (0 : Int64), vS, vI oa2, vI u3, vI ob2]) rfl (pc' := 307) rfl ?_
  refine own_lload X4 hx (hb hby d9_307) rfl (pc' := 309) rfl ?_
  refine own_bipush X4 hx (hb hby d9_309) (z := (32 : Int32)) (by decide) (pc' := 311) rfl ?_
  refine own_lshl X4 hx (hb hby d9_311) (pc' := 312) rfl ?_
  refine own_lload X4 hx (hb hby d9_312) rfl (pc' := 314) rfl ?_
  refine own_bipush X4 hx (hb hby d9_314) (z := (32 : Int32)) (by decide) (pc' := 316) rfl ?_
  refine own_lushr X4 hx (hb hby d9_316) (pc' := 317) rfl ?_
  refine own_lor X4 hx (hb hby d9_317) (pc' := 318) rfl ?_
  rw [own_r32]
  refine own_lstore X4 hx (hb hby d9_318) (l' := #[vR ra, vR rb, vI u2, vI u3, vL ((own_rot (t4.1 + t4.2.1) (32 : Int32)) + ((own_rot (t4.2.2.2 ^^^ (0 : Int64)) (16 : Int32)) ^^^ (t4.2.2.1 + (t4.2.2.2 ^^^ (0 : Int64))))), vS, vL ((own_rot ((own_rot t4.2.1 (13 : Int32)) ^^^ (t4.1 + t4.2.1)) (17 : Int32)) ^^^ ((t4.2.2.1 + (t4.2.2.2 ^^^ (0 : Int64))) + ((own_rot t4.2.1 (13 : Int32)) ^^^ (t4.1 + t4.2.1)))), vS, vL (own_rot ((t4.2.2.1 + (t4.2.2.2 ^^^ (0 : Int64))) + ((own_rot t4.2.1 (13 : Int32)) ^^^ (t4.1 + t4.2.1))) (32 : Int32)), vS, vL ((own_rot ((own_rot (t4.2.2.2 ^^^ (0 : Int64)) (16 : Int32)) ^^^ (t4.2.2.1 + (t4.2.2.2 ^^^ (0 : Int64)))) (21 : Int32)) ^^^ ((own_rot (t4.1 + t4.2.1) (32 : Int32)) + ((own_rot (t4.2.2.2 ^^^ (0 : Int64)) (16 : Int32)) ^^^ (t4.2.2.1 + (t4.2.2.2 ^^^ (0 : Int64)))))), vS, vI (u3 - u2), vI ((2 : Int32) + (1 : Int32)), vI (4 : Int32), vL (0 : Int64), vS, vI oa2, vI u3, vI ob2]) rfl (pc' := 320) rfl ?_
  refine own_lload X4 hx (hb hby d9_320) rfl (pc' := 322) rfl ?_
  refine own_lload X4 hx (hb hby d9_322) rfl (pc' := 324) rfl ?_
  refine own_lxor X4 hx (hb hby d9_324) (pc' := 325) rfl ?_
  refine own_lstore X4 hx (hb hby d9_325) (l' := #[vR ra, vR rb, vI u2, vI u3, vL (((own_rot (t4.1 + t4.2.1) (32 : Int32)) + ((own_rot (t4.2.2.2 ^^^ (0 : Int64)) (16 : Int32)) ^^^ (t4.2.2.1 + (t4.2.2.2 ^^^ (0 : Int64))))) ^^^ (0 : Int64)), vS, vL ((own_rot ((own_rot t4.2.1 (13 : Int32)) ^^^ (t4.1 + t4.2.1)) (17 : Int32)) ^^^ ((t4.2.2.1 + (t4.2.2.2 ^^^ (0 : Int64))) + ((own_rot t4.2.1 (13 : Int32)) ^^^ (t4.1 + t4.2.1)))), vS, vL (own_rot ((t4.2.2.1 + (t4.2.2.2 ^^^ (0 : Int64))) + ((own_rot t4.2.1 (13 : Int32)) ^^^ (t4.1 + t4.2.1))) (32 : Int32)), vS, vL ((own_rot ((own_rot (t4.2.2.2 ^^^ (0 : Int64)) (16 : Int32)) ^^^ (t4.2.2.1 + (t4.2.2.2 ^^^ (0 : Int64)))) (21 : Int32)) ^^^ ((own_rot (t4.1 + t4.2.1) (32 : Int32)) + ((own_rot (t4.2.2.2 ^^^ (0 : Int64)) (16 : Int32)) ^^^ (t4.2.2.1 + (t4.2.2.2 ^^^ (0 : Int64)))))), vS, vI (u3 - u2), vI ((2 : Int32) + (1 : Int32)), vI (4 : Int32), vL (0 : Int64), vS, vI oa2, vI u3, vI ob2]) rfl (pc' := 327) rfl ?_
  refine own_iinc X4 hx (hb hby d9_327) rfl (z := (1 : Int32)) rfl (l' := #[vR ra, vR rb, vI u2, vI u3, vL (((own_rot (t4.1 + t4.2.1) (32 : Int32)) + ((own_rot (t4.2.2.2 ^^^ (0 : Int64)) (16 : Int32)) ^^^ (t4.2.2.1 + (t4.2.2.2 ^^^ (0 : Int64))))) ^^^ (0 : Int64)), vS, vL ((own_rot ((own_rot t4.2.1 (13 : Int32)) ^^^ (t4.1 + t4.2.1)) (17 : Int32)) ^^^ ((t4.2.2.1 + (t4.2.2.2 ^^^ (0 : Int64))) + ((own_rot t4.2.1 (13 : Int32)) ^^^ (t4.1 + t4.2.1)))), vS, vL (own_rot ((t4.2.2.1 + (t4.2.2.2 ^^^ (0 : Int64))) + ((own_rot t4.2.1 (13 : Int32)) ^^^ (t4.1 + t4.2.1))) (32 : Int32)), vS, vL ((own_rot ((own_rot (t4.2.2.2 ^^^ (0 : Int64)) (16 : Int32)) ^^^ (t4.2.2.1 + (t4.2.2.2 ^^^ (0 : Int64)))) (21 : Int32)) ^^^ ((own_rot (t4.1 + t4.2.1) (32 : Int32)) + ((own_rot (t4.2.2.2 ^^^ (0 : Int64)) (16 : Int32)) ^^^ (t4.2.2.1 + (t4.2.2.2 ^^^ (0 : Int64)))))), vS, vI (u3 - u2), vI ((2 : Int32) + (1 : Int32)), vI ((4 : Int32) + (1 : Int32)), vL (0 : Int64), vS, vI oa2, vI u3, vI ob2]) rfl (pc' := 330) rfl ?_
  refine own_goto X4 hx (hb hby d9_330) (by decide) (pc' := 57) rfl ?_
  show own_G p e below s _ _ _ (T4.setTop (mkF m 57 #[vR ra, vR rb, vI u2, vI u3, vL ((own_comp (0 : Int64) t4).1), vS, vL ((own_comp (0 : Int64) t4).2.1), vS, vL ((own_comp (0 : Int64) t4).2.2.1), vS, vL ((own_comp (0 : Int64) t4).2.2.2), vS, vI (u3 - u2), vI ((2 : Int32) + (1 : Int32)), vI (5 : Int32), vL (0 : Int64), vS, vI oa2, vI u3, vI ob2] []))
  generalize ht5 : (own_comp (0 : Int64) t4) = t5
  refine own_iload X4 hx (hb hby d9_57) rfl (pc' := 59) rfl ?_
  refine own_iload X4 hx (hb hby d9_59) rfl (pc' := 61) rfl ?_
  refine own_iconst X4 hx (hb hby d9_61) (z := (3 : Int32)) rfl (pc' := 62) rfl ?_
  refine own_iadd X4 hx (hb hby d9_62) (pc' := 63) rfl ?_
  refine own_icmpF X4 hx (hb hby d9_63) (by decide) (pc' := 66) rfl ?_
  refine own_lconst X4 hx (hb hby d9_66) (z := (0 : Int64)) (by decide) (pc' := 67) rfl ?_
  refine own_lstore X4 hx (hb hby d9_67) (l' := #[vR ra, vR rb, vI u2, vI u3, vL t5.1, vS, vL t5.2.1, vS, vL t5.2.2.1, vS, vL t5.2.2.2, vS, vI (u3 - u2), vI ((2 : Int32) + (1 : Int32)), vI (5 : Int32), vL (0 : Int64), vS, vI oa2, vI u3, vI ob2]) rfl (pc' := 69) rfl ?_
  refine own_iload X4 hx (hb hby d9_69) rfl (pc' := 71) rfl ?_
  refine own_iload X4 hx (hb hby d9_71) rfl (pc' := 73) rfl ?_
  refine own_icmpT X4 hx (hb hby d9_73) (by decide) (by decide) (pc' := 164) rfl ?_
  refine own_iload X4 hx (hb hby d9_164) rfl (pc' := 166) rfl ?_
  refine own_iload X4 hx (hb hby d9_166) rfl (pc' := 168) rfl ?_
  refine own_icmpT X4 hx (hb hby d9_168) (by decide) (by decide) (pc' := 179) rfl ?_
  refine own_lload X4 hx (hb hby d9_179) rfl (pc' := 181) rfl ?_
  refine own_lload X4 hx (hb hby d9_181) rfl (pc' := 183) rfl ?_
  refine own_lxor X4 hx (hb hby d9_183) (pc' := 184) rfl ?_
  refine own_lstore X4 hx (hb hby d9_184) (l' := #[vR ra, vR rb, vI u2, vI u3, vL t5.1, vS, vL t5.2.1, vS, vL t5.2.2.1, vS, vL (t5.2.2.2 ^^^ (0 : Int64)), vS, vI (u3 - u2), vI ((2 : Int32) + (1 : Int32)), vI (5 : Int32), vL (0 : Int64), vS, vI oa2, vI u3, vI ob2]) rfl (pc' := 186) rfl ?_
  refine own_lload X4 hx (hb hby d9_186) rfl (pc' := 188) rfl ?_
  refine own_lload X4 hx (hb hby d9_188) rfl (pc' := 190) rfl ?_
  refine own_ladd X4 hx (hb hby d9_190) (pc' := 191) rfl ?_
  refine own_lstore X4 hx (hb hby d9_191) (l' := #[vR ra, vR rb, vI u2, vI u3, vL (t5.1 + t5.2.1), vS, vL t5.2.1, vS, vL t5.2.2.1, vS, vL (t5.2.2.2 ^^^ (0 : Int64)), vS, vI (u3 - u2), vI ((2 : Int32) + (1 : Int32)), vI (5 : Int32), vL (0 : Int64), vS, vI oa2, vI u3, vI ob2]) rfl (pc' := 193) rfl ?_
  refine own_lload X4 hx (hb hby d9_193) rfl (pc' := 195) rfl ?_
  refine own_bipush X4 hx (hb hby d9_195) (z := (13 : Int32)) (by decide) (pc' := 197) rfl ?_
  refine own_lshl X4 hx (hb hby d9_197) (pc' := 198) rfl ?_
  refine own_lload X4 hx (hb hby d9_198) rfl (pc' := 200) rfl ?_
  refine own_bipush X4 hx (hb hby d9_200) (z := (51 : Int32)) (by decide) (pc' := 202) rfl ?_
  refine own_lushr X4 hx (hb hby d9_202) (pc' := 203) rfl ?_
  refine own_lor X4 hx (hb hby d9_203) (pc' := 204) rfl ?_
  rw [own_r13]
  refine own_lstore X4 hx (hb hby d9_204) (l' := #[vR ra, vR rb, vI u2, vI u3, vL (t5.1 + t5.2.1), vS, vL (own_rot t5.2.1 (13 : Int32)), vS, vL t5.2.2.1, vS, vL (t5.2.2.2 ^^^ (0 : Int64)), vS, vI (u3 - u2), vI ((2 : Int32) + (1 : Int32)), vI (5 : Int32), vL (0 : Int64), vS, vI oa2, vI u3, vI ob2]) rfl (pc' := 206) rfl ?_
  refine own_lload X4 hx (hb hby d9_206) rfl (pc' := 208) rfl ?_
  refine own_lload X4 hx (hb hby d9_208) rfl (pc' := 210) rfl ?_
  refine own_lxor X4 hx (hb hby d9_210) (pc' := 211) rfl ?_
  refine own_lstore X4 hx (hb hby d9_211) (l' := #[vR ra, vR rb, vI u2, vI u3, vL (t5.1 + t5.2.1), vS, vL ((own_rot t5.2.1 (13 : Int32)) ^^^ (t5.1 + t5.2.1)), vS, vL t5.2.2.1, vS, vL (t5.2.2.2 ^^^ (0 : Int64)), vS, vI (u3 - u2), vI ((2 : Int32) + (1 : Int32)), vI (5 : Int32), vL (0 : Int64), vS, vI oa2, vI u3, vI ob2]) rfl (pc' := 213) rfl ?_
  refine own_lload X4 hx (hb hby d9_213) rfl (pc' := 215) rfl ?_
  refine own_bipush X4 hx (hb hby d9_215) (z := (32 : Int32)) (by decide) (pc' := 217) rfl ?_
  refine own_lshl X4 hx (hb hby d9_217) (pc' := 218) rfl ?_
  refine own_lload X4 hx (hb hby d9_218) rfl (pc' := 220) rfl ?_
  refine own_bipush X4 hx (hb hby d9_220) (z := (32 : Int32)) (by decide) (pc' := 222) rfl ?_
  refine own_lushr X4 hx (hb hby d9_222) (pc' := 223) rfl ?_
  refine own_lor X4 hx (hb hby d9_223) (pc' := 224) rfl ?_
  rw [own_r32]
  refine own_lstore X4 hx (hb hby d9_224) (l' := #[vR ra, vR rb, vI u2, vI u3, vL (own_rot (t5.1 + t5.2.1) (32 : Int32)), vS, vL ((own_rot t5.2.1 (13 : Int32)) ^^^ (t5.1 + t5.2.1)), vS, vL t5.2.2.1, vS, vL (t5.2.2.2 ^^^ (0 : Int64)), vS, vI (u3 - u2), vI ((2 : Int32) + (1 : Int32)), vI (5 : Int32), vL (0 : Int64), vS, vI oa2, vI u3, vI ob2]) rfl (pc' := 226) rfl ?_
  refine own_lload X4 hx (hb hby d9_226) rfl (pc' := 228) rfl ?_
  refine own_lload X4 hx (hb hby d9_228) rfl (pc' := 230) rfl ?_
  refine own_ladd X4 hx (hb hby d9_230) (pc' := 231) rfl ?_
  refine own_lstore X4 hx (hb hby d9_231) (l' := #[vR ra, vR rb, vI u2, vI u3, vL (own_rot (t5.1 + t5.2.1) (32 : Int32)), vS, vL ((own_rot t5.2.1 (13 : Int32)) ^^^ (t5.1 + t5.2.1)), vS, vL (t5.2.2.1 + (t5.2.2.2 ^^^ (0 : Int64))), vS, vL (t5.2.2.2 ^^^ (0 : Int64)), vS, vI (u3 - u2), vI ((2 : Int32) + (1 : Int32)), vI (5 : Int32), vL (0 : Int64), vS, vI oa2, vI u3, vI ob2]) rfl (pc' := 233) rfl ?_
  refine own_lload X4 hx (hb hby d9_233) rfl (pc' := 235) rfl ?_
  refine own_bipush X4 hx (hb hby d9_235) (z := (16 : Int32)) (by decide) (pc' := 237) rfl ?_
  refine own_lshl X4 hx (hb hby d9_237) (pc' := 238) rfl ?_
  refine own_lload X4 hx (hb hby d9_238) rfl (pc' := 240) rfl ?_
  refine own_bipush X4 hx (hb hby d9_240) (z := (48 : Int32)) (by decide) (pc' := 242) rfl ?_
  refine own_lushr X4 hx (hb hby d9_242) (pc' := 243) rfl ?_
  refine own_lor X4 hx (hb hby d9_243) (pc' := 244) rfl ?_
  rw [own_r16]
  refine own_lstore X4 hx (hb hby d9_244) (l' := #[vR ra, vR rb, vI u2, vI u3, vL (own_rot (t5.1 + t5.2.1) (32 : Int32)), vS, vL ((own_rot t5.2.1 (13 : Int32)) ^^^ (t5.1 + t5.2.1)), vS, vL (t5.2.2.1 + (t5.2.2.2 ^^^ (0 : Int64))), vS, vL (own_rot (t5.2.2.2 ^^^ (0 : Int64)) (16 : Int32)), vS, vI (u3 - u2), vI ((2 : Int32) + (1 : Int32)), vI (5 : Int32), vL (0 : Int64), vS, vI oa2, vI u3, vI ob2]) rfl (pc' := 246) rfl ?_
  refine own_lload X4 hx (hb hby d9_246) rfl (pc' := 248) rfl ?_
  refine own_lload X4 hx (hb hby d9_248) rfl (pc' := 250) rfl ?_
  refine own_lxor X4 hx (hb hby d9_250) (pc' := 251) rfl ?_
  refine own_lstore X4 hx (hb hby d9_251) (l' := #[vR ra, vR rb, vI u2, vI u3, vL (own_rot (t5.1 + t5.2.1) (32 : Int32)), vS, vL ((own_rot t5.2.1 (13 : Int32)) ^^^ (t5.1 + t5.2.1)), vS, vL (t5.2.2.1 + (t5.2.2.2 ^^^ (0 : Int64))), vS, vL ((own_rot (t5.2.2.2 ^^^ (0 : Int64)) (16 : Int32)) ^^^ (t5.2.2.1 + (t5.2.2.2 ^^^ (0 : Int64)))), vS, vI (u3 - u2), vI ((2 : Int32) + (1 : Int32)), vI (5 : Int32), vL (0 : Int64), vS, vI oa2, vI u3, vI ob2]) rfl (pc' := 253) rfl ?_
  refine own_lload X4 hx (hb hby d9_253) rfl (pc' := 255) rfl ?_
  refine own_lload X4 hx (hb hby d9_255) rfl (pc' := 257) rfl ?_
  refine own_ladd X4 hx (hb hby d9_257) (pc' := 258) rfl ?_
  refine own_lstore X4 hx (hb hby d9_258) (l' := #[vR ra, vR rb, vI u2, vI u3, vL ((own_rot (t5.1 + t5.2.1) (32 : Int32)) + ((own_rot (t5.2.2.2 ^^^ (0 : Int64)) (16 : Int32)) ^^^ (t5.2.2.1 + (t5.2.2.2 ^^^ (0 : Int64))))), vS, vL ((own_rot t5.2.1 (13 : Int32)) ^^^ (t5.1 + t5.2.1)), vS, vL (t5.2.2.1 + (t5.2.2.2 ^^^ (0 : Int64))), vS, vL ((own_rot (t5.2.2.2 ^^^ (0 : Int64)) (16 : Int32)) ^^^ (t5.2.2.1 + (t5.2.2.2 ^^^ (0 : Int64)))), vS, vI (u3 - u2), vI ((2 : Int32) + (1 : Int32)), vI (5 : Int32), vL (0 : Int64), vS, vI oa2, vI u3, vI ob2]) rfl (pc' := 260) rfl ?_
  refine own_lload X4 hx (hb hby d9_260) rfl (pc' := 262) rfl ?_
  refine own_bipush X4 hx (hb hby d9_262) (z := (21 : Int32)) (by decide) (pc' := 264) rfl ?_
  refine own_lshl X4 hx (hb hby d9_264) (pc' := 265) rfl ?_
  refine own_lload X4 hx (hb hby d9_265) rfl (pc' := 267) rfl ?_
  refine own_bipush X4 hx (hb hby d9_267) (z := (43 : Int32)) (by decide) (pc' := 269) rfl ?_
  refine own_lushr X4 hx (hb hby d9_269) (pc' := 270) rfl ?_
  refine own_lor X4 hx (hb hby d9_270) (pc' := 271) rfl ?_
  rw [own_r21]
  refine own_lstore X4 hx (hb hby d9_271) (l' := #[vR ra, vR rb, vI u2, vI u3, vL ((own_rot (t5.1 + t5.2.1) (32 : Int32)) + ((own_rot (t5.2.2.2 ^^^ (0 : Int64)) (16 : Int32)) ^^^ (t5.2.2.1 + (t5.2.2.2 ^^^ (0 : Int64))))), vS, vL ((own_rot t5.2.1 (13 : Int32)) ^^^ (t5.1 + t5.2.1)), vS, vL (t5.2.2.1 + (t5.2.2.2 ^^^ (0 : Int64))), vS, vL (own_rot ((own_rot (t5.2.2.2 ^^^ (0 : Int64)) (16 : Int32)) ^^^ (t5.2.2.1 + (t5.2.2.2 ^^^ (0 : Int64)))) (21 : Int32)), vS, vI (u3 - u2), vI ((2 : Int32) + (1 : Int32)), vI (5 : Int32), vL (0 : Int64), vS, vI oa2, vI u3, vI ob2]) rfl (pc' := 273) rfl ?_
  refine own_lload X4 hx (hb hby d9_273) rfl (pc' := 275) rfl ?_
  refine own_lload X4 hx (hb hby d9_275) rfl (pc' := 277) rfl ?_
  refine own_lxor X4 hx (hb hby d9_277) (pc' := 278) rfl ?_
  refine own_lstore X4 hx (hb hby d9_278) (l' := #[vR ra, vR rb, vI u2, vI u3, vL ((own_rot (t5.1 + t5.2.1) (32 : Int32)) + ((own_rot (t5.2.2.2 ^^^ (0 : Int64)) (16 : Int32)) ^^^ (t5.2.2.1 + (t5.2.2.2 ^^^ (0 : Int64))))), vS, vL ((own_rot t5.2.1 (13 : Int32)) ^^^ (t5.1 + t5.2.1)), vS, vL (t5.2.2.1 + (t5.2.2.2 ^^^ (0 : Int64))), vS, vL ((own_rot ((own_rot (t5.2.2.2 ^^^ (0 : Int64)) (16 : Int32)) ^^^ (t5.2.2.1 + (t5.2.2.2 ^^^ (0 : Int64)))) (21 : Int32)) ^^^ ((own_rot (t5.1 + t5.2.1) (32 : Int32)) + ((own_rot (t5.2.2.2 ^^^ (0 : Int64)) (16 : Int32)) ^^^ (t5.2.2.1 + (t5.2.2.2 ^^^ (0 : Int64)))))), vS, vI (u3 - u2), vI ((2 : Int32) + (1 : Int32)), vI (5 : Int32), vL (0 : Int64), vS, vI oa2, vI u3, vI ob2]) rfl (pc' := 280) rfl ?_
  refine own_lload X4 hx (hb hby d9_280) rfl (pc' := 282) rfl ?_
  refine own_lload X4 hx (hb hby d9_282) rfl (pc' := 284) rfl ?_
  refine own_ladd X4 hx (hb hby d9_284) (pc' := 285) rfl ?_
  refine own_lstore X4 hx (hb hby d9_285) (l' := #[vR ra, vR rb, vI u2, vI u3, vL ((own_rot (t5.1 + t5.2.1) (32 : Int32)) + ((own_rot (t5.2.2.2 ^^^ (0 : Int64)) (16 : Int32)) ^^^ (t5.2.2.1 + (t5.2.2.2 ^^^ (0 : Int64))))), vS, vL ((own_rot t5.2.1 (13 : Int32)) ^^^ (t5.1 + t5.2.1)), vS, vL ((t5.2.2.1 + (t5.2.2.2 ^^^ (0 : Int64))) + ((own_rot t5.2.1 (13 : Int32)) ^^^ (t5.1 + t5.2.1))), vS, vL ((own_rot ((own_rot (t5.2.2.2 ^^^ (0 : Int64)) (16 : Int32)) ^^^ (t5.2.2.1 + (t5.2.2.2 ^^^ (0 : Int64)))) (21 : Int32)) ^^^ ((own_rot (t5.1 + t5.2.1) (32 : Int32)) + ((own_rot (t5.2.2.2 ^^^ (0 : Int64)) (16 : Int32)) ^^^ (t5.2.2.1 + (t5.2.2.2 ^^^ (0 : Int64)))))), vS, vI (u3 - u2), vI ((2 : Int32) + (1 : Int32)), vI (5 : Int32), vL (0 : Int64), vS, vI oa2, vI u3, vI ob2]) rfl (pc' := 287) rfl ?_
  refine own_lload X4 hx (hb hby d9_287) rfl (pc' := 289) rfl ?_
  refine own_bipush X4 hx (hb hby d9_289) (z := (17 : Int32)) (by decide) (pc' := 291) rfl ?_
  refine own_lshl X4 hx (hb hby d9_291) (pc' := 292) rfl ?_
  refine own_lload X4 hx (hb hby d9_292) rfl (pc' := 294) rfl ?_
  refine own_bipush X4 hx (hb hby d9_294) (z := (47 : Int32)) (by decide) (pc' := 296) rfl ?_
  refine own_lushr X4 hx (hb hby d9_296) (pc' := 297) rfl ?_
  refine own_lor X4 hx (hb hby d9_297) (pc' := 298) rfl ?_
  rw [own_r17]
  refine own_lstore X4 hx (hb hby d9_298) (l' := #[vR ra, vR rb, vI u2, vI u3, vL ((own_rot (t5.1 + t5.2.1) (32 : Int32)) + ((own_rot (t5.2.2.2 ^^^ (0 : Int64)) (16 : Int32)) ^^^ (t5.2.2.1 + (t5.2.2.2 ^^^ (0 : Int64))))), vS, vL (own_rot ((own_rot t5.2.1 (13 : Int32)) ^^^ (t5.1 + t5.2.1)) (17 : Int32)), vS, vL ((t5.2.2.1 + (t5.2.2.2 ^^^ (0 : Int64))) + ((own_rot t5.2.1 (13 : Int32)) ^^^ (t5.1 + t5.2.1))), vS, vL ((own_rot ((own_rot (t5.2.2.2 ^^^ (0 : Int64)) (16 : Int32)) ^^^ (t5.2.2.1 + (t5.2.2.2 ^^^ (0 : Int64)))) (21 : Int32)) ^^^ ((own_rot (t5.1 + t5.2.1) (32 : Int32)) + ((own_rot (t5.2.2.2 ^^^ (0 : Int64)) (16 : Int32)) ^^^ (t5.2.2.1 + (t5.2.2.2 ^^^ (0 : Int64)))))), vS, vI (u3 - u2), vI ((2 : Int32) + (1 : Int32)), vI (5 : Int32), vL (0 : Int64), vS, vI oa2, vI u3, vI ob2]) rfl (pc' := 300) rfl ?_
  refine own_lload X4 hx (hb hby d9_300) rfl (pc' := 302) rfl ?_
  refine own_lload X4 hx (hb hby d9_302) rfl (pc' := 304) rfl ?_
  refine own_lxor X4 hx (hb hby d9_304) (pc' := 305) rfl ?_
  refine own_lstore X4 hx (hb hby d9_305) (l' := #[vR ra, vR rb, vI u2, vI u3, vL ((own_rot (t5.1 + t5.2.1) (32 : Int32)) + ((own_rot (t5.2.2.2 ^^^ (0 : Int64)) (16 : Int32)) ^^^ (t5.2.2.1 + (t5.2.2.2 ^^^ (0 : Int64))))), vS, vL ((own_rot ((own_rot t5.2.1 (13 : Int32)) ^^^ (t5.1 + t5.2.1)) (17 : Int32)) ^^^ ((t5.2.2.1 + (t5.2.2.2 ^^^ (0 : Int64))) + ((own_rot t5.2.1 (13 : Int32)) ^^^ (t5.1 + t5.2.1)))), vS, vL ((t5.2.2.1 + (t5.2.2.2 ^^^ (0 : Int64))) + ((own_rot t5.2.1 (13 : Int32)) ^^^ (t5.1 + t5.2.1))), vS, vL ((own_rot ((own_rot (t5.2.2.2 ^^^ (0 : Int64)) (16 : Int32)) ^^^ (t5.2.2.1 + (t5.2.2.2 ^^^ (0 : Int64)))) (21 : Int32)) ^^^ ((own_rot (t5.1 + t5.2.1) (32 : Int32)) + ((own_rot (t5.2.2.2 ^^^ (0 : Int64)) (16 : Int32)) ^^^ (t5.2.2.1 + (t5.2.2.2 ^^^ (0 : Int64)))))), vS, vI (u3 - u2), vI ((2 : Int32) + (1 : Int32)), vI (5 : Int32), vL (0 : Int64), vS, vI oa2, vI u3, vI ob2]) rfl (pc' := 307) rfl ?_
  refine own_lload X4 hx (hb hby d9_307) rfl (pc' := 309) rfl ?_
  refine own_bipush X4 hx (hb hby d9_309) (z := (32 : Int32)) (by decide) (pc' := 311) rfl ?_
  refine own_lshl X4 hx (hb hby d9_311) (pc' := 312) rfl ?_
  refine own_lload X4 hx (hb hby d9_312) rfl (pc' := 314) rfl ?_
  refine own_bipush X4 hx (hb hby d9_314) (z := (32 : Int32)) (by decide) (pc' := 316) rfl ?_
  refine own_lushr X4 hx (hb hby d9_316) (pc' := 317) rfl ?_
  refine own_lor X4 hx (hb hby d9_317) (pc' := 318) rfl ?_
  rw [own_r32]
  refine own_lstore X4 hx (hb hby d9_318) (l' := #[vR ra, vR rb, vI u2, vI u3, vL ((own_rot (t5.1 + t5.2.1) (32 : Int32)) + ((own_rot (t5.2.2.2 ^^^ (0 : Int64)) (16 : Int32)) ^^^ (t5.2.2.1 + (t5.2.2.2 ^^^ (0 : Int64))))), vS, vL ((own_rot ((own_rot t5.2.1 (13 : Int32)) ^^^ (t5.1 + t5.2.1)) (17 : Int32)) ^^^ ((t5.2.2.1 + (t5.2.2.2 ^^^ (0 : Int64))) + ((own_rot t5.2.1 (13 : Int32)) ^^^ (t5.1 + t5.2.1)))), vS, vL (own_rot ((t5.2.2.1 + (t5.2.2.2 ^^^ (0 : Int64))) + ((own_rot t5.2.1 (13 : Int32)) ^^^ (t5.1 + t5.2.1))) (32 : Int32)), vS, vL ((own_rot ((own_rot (t5.2.2.2 ^^^ (0 : Int64)) (16 : Int32)) ^^^ (t5.2.2.1 + (t5.2.2.2 ^^^ (0 : Int64)))) (21 : Int32)) ^^^ ((own_rot (t5.1 + t5.2.1) (32 : Int32)) + ((own_rot (t5.2.2.2 ^^^ (0 : Int64)) (16 : Int32)) ^^^ (t5.2.2.1 + (t5.2.2.2 ^^^ (0 : Int64)))))), vS, vI (u3 - u2), vI ((2 : Int32) + (1 : Int32)), vI (5 : Int32), vL (0 : Int64), vS, vI oa2, vI u3, vI ob2]) rfl (pc' := 320) rfl ?_
  refine own_lload X4 hx (hb hby d9_320) rfl (pc' := 322) rfl ?_
  refine own_lload X4 hx (hb hby d9_322) rfl (pc' := 324) rfl ?_
  refine own_lxor X4 hx (hb hby d9_324) (pc' := 325) rfl ?_
  refine own_lstore X4 hx (hb hby d9_325) (l' := #[vR ra, vR rb, vI u2, vI u3, vL (((own_rot (t5.1 + t5.2.1) (32 : Int32)) + ((own_rot (t5.2.2.2 ^^^ (0 : Int64)) (16 : Int32)) ^^^ (t5.2.2.1 + (t5.2.2.2 ^^^ (0 : Int64))))) ^^^ (0 : Int64)), vS, vL ((own_rot ((own_rot t5.2.1 (13 : Int32)) ^^^ (t5.1 + t5.2.1)) (17 : Int32)) ^^^ ((t5.2.2.1 + (t5.2.2.2 ^^^ (0 : Int64))) + ((own_rot t5.2.1 (13 : Int32)) ^^^ (t5.1 + t5.2.1)))), vS, vL (own_rot ((t5.2.2.1 + (t5.2.2.2 ^^^ (0 : Int64))) + ((own_rot t5.2.1 (13 : Int32)) ^^^ (t5.1 + t5.2.1))) (32 : Int32)), vS, vL ((own_rot ((own_rot (t5.2.2.2 ^^^ (0 : Int64)) (16 : Int32)) ^^^ (t5.2.2.1 + (t5.2.2.2 ^^^ (0 : Int64)))) (21 : Int32)) ^^^ ((own_rot (t5.1 + t5.2.1) (32 : Int32)) + ((own_rot (t5.2.2.2 ^^^ (0 : Int64)) (16 : Int32)) ^^^ (t5.2.2.1 + (t5.2.2.2 ^^^ (0 : Int64)))))), vS, vI (u3 - u2), vI ((2 : Int32) + (1 : Int32)), vI (5 : Int32), vL (0 : Int64), vS, vI oa2, vI u3, vI ob2]) rfl (pc' := 327) rfl ?_
  refine own_iinc X4 hx (hb hby d9_327) rfl (z := (1 : Int32)) rfl (l' := #[vR ra, vR rb, vI u2, vI u3, vL (((own_rot (t5.1 + t5.2.1) (32 : Int32)) + ((own_rot (t5.2.2.2 ^^^ (0 : Int64)) (16 : Int32)) ^^^ (t5.2.2.1 + (t5.2.2.2 ^^^ (0 : Int64))))) ^^^ (0 : Int64)), vS, vL ((own_rot ((own_rot t5.2.1 (13 : Int32)) ^^^ (t5.1 + t5.2.1)) (17 : Int32)) ^^^ ((t5.2.2.1 + (t5.2.2.2 ^^^ (0 : Int64))) + ((own_rot t5.2.1 (13 : Int32)) ^^^ (t5.1 + t5.2.1)))), vS, vL (own_rot ((t5.2.2.1 + (t5.2.2.2 ^^^ (0 : Int64))) + ((own_rot t5.2.1 (13 : Int32)) ^^^ (t5.1 + t5.2.1))) (32 : Int32)), vS, vL ((own_rot ((own_rot (t5.2.2.2 ^^^ (0 : Int64)) (16 : Int32)) ^^^ (t5.2.2.1 + (t5.2.2.2 ^^^ (0 : Int64)))) (21 : Int32)) ^^^ ((own_rot (t5.1 + t5.2.1) (32 : Int32)) + ((own_rot (t5.2.2.2 ^^^ (0 : Int64)) (16 : Int32)) ^^^ (t5.2.2.1 + (t5.2.2.2 ^^^ (0 : Int64)))))), vS, vI (u3 - u2), vI ((2 : Int32) + (1 : Int32)), vI ((5 : Int32) + (1 : Int32)), vL (0 : Int64), vS, vI oa2, vI u3, vI ob2]) rfl (pc' := 330) rfl ?_
  refine own_goto X4 hx (hb hby d9_330) (by decide) (pc' := 57) rfl ?_
  show own_G p e below s _ _ _ (T4.setTop (mkF m 57 #[vR ra, vR rb, vI u2, vI u3, vL ((own_comp (0 : Int64) t5).1), vS, vL ((own_comp (0 : Int64) t5).2.1), vS, vL ((own_comp (0 : Int64) t5).2.2.1), vS, vL ((own_comp (0 : Int64) t5).2.2.2), vS, vI (u3 - u2), vI ((2 : Int32) + (1 : Int32)), vI (6 : Int32), vL (0 : Int64), vS, vI oa2, vI u3, vI ob2] []))
  generalize ht6 : (own_comp (0 : Int64) t5) = t6
  refine own_iload X4 hx (hb hby d9_57) rfl (pc' := 59) rfl ?_
  refine own_iload X4 hx (hb hby d9_59) rfl (pc' := 61) rfl ?_
  refine own_iconst X4 hx (hb hby d9_61) (z := (3 : Int32)) rfl (pc' := 62) rfl ?_
  refine own_iadd X4 hx (hb hby d9_62) (pc' := 63) rfl ?_
  refine own_icmpT X4 hx (hb hby d9_63) (by decide) (by decide) (pc' := 333) rfl ?_
  refine own_lload X4 hx (hb hby d9_333) rfl (pc' := 335) rfl ?_
  refine own_lload X4 hx (hb hby d9_335) rfl (pc' := 337) rfl ?_
  refine own_lxor X4 hx (hb hby d9_337) (pc' := 338) rfl ?_
  refine own_lload X4 hx (hb hby d9_338) rfl (pc' := 340) rfl ?_
  refine own_lxor X4 hx (hb hby d9_340) (pc' := 341) rfl ?_
  refine own_lload X4 hx (hb hby d9_341) rfl (pc' := 343) rfl ?_
  refine own_lxor X4 hx (hb hby d9_343) (pc' := 344) rfl ?_
  exact own_retL X4 hx hret hlk (hb hby d9_344) ⟨(by subst ht6 ht5 ht4 ht3 ht2 ht1 ht0 hM0 hM1 hM2; rfl), N0, e4⟩ (by decide) (by decide)
theorem oef_rm_hash3 (m : MethodId) (ra : Addr) (rb : Addr) (u2 : Int32) (u3 : Int32) : entryFrame m #[(.ref ra), (.ref rb), (.int u2), (.int u3)] 20 = mkF m 0 #[vR ra, vR rb, vI u2, vI u3, vU, vU, vU, vU, vU, vU, vU, vU, vU, vU, vU, vU, vU, vU, vU, vU] [] := by first | (simp [entryFrame, mkF, argsToLocals, Value.category]; done) | rfl
set_option maxRecDepth 65536 in
set_option maxHeartbeats 40000000 in
theorem rm_hash3 (l : Launch) (Z : State) (a0 : Array Value) (hw : ∀ d ∈ tables_1, d.before a0 Z = true) (ra : Addr) (rb : Addr) (u2 : Int32) (u3 : Int32) (q0 : Int64) (q1 : Int64) (gg : Nat → Int32) (h0 : Heap) (n0 : Nat) (Z0 : n0 ≤ h0.size) (P0 : Fld Z h0 ra "com/example/structlane/structlane/header/SipHash" "key0" "J" (.long q0)) (P1 : Fld Z h0 ra "com/example/structlane/structlane/header/SipHash" "key1" "J" (.long q1)) (P2 : own_AI Z h0 rb .byte (24 : Int32) gg) (hs : 0 ≤ u2.toInt) (hE : u2.toInt ≤ u3.toInt ∧ u3.toInt ≤ 24) (hD : ((u3 - u2) / (8 : Int32)) = (3 : Int32)) :
    own_M l Z (⟨"com/example/structlane/structlane/header/SipHash", "hash", "([BII)J"⟩ : MethodName) prog_186_method_3_code 20 (some .long) [] ({ frames := 0, cells := 0, slots := 0, locals := 0 } : Room) #[(.ref ra), (.ref rb), (.int u2), (.int u3)] h0 (fun v h L => v = some (.long (own_x4 (own_comp (0 : Int64) (own_comp (0 : Int64) (own_comp (0 : Int64) (own_ff (own_comp ((own_le8 gg (u2 + ((3 : Int32) * (8 : Int32))) (u3 - (u2 + ((3 : Int32) * (8 : Int32))))) ||| ((u3 - u2).toInt64 <<< ((56 : Int32) &&& 0x3f).toInt64)) (own_comp (own_le8 gg (u2 + ((2 : Int32) * (8 : Int32))) (8 : Int32)) (own_comp (own_le8 gg (u2 + ((1 : Int32) * (8 : Int32))) (8 : Int32)) (own_comp (own_le8 gg (u2 + ((0 : Int32) * (8 : Int32))) (8 : Int32)) ((q0 ^^^ (8317987319222330741 : Int64)), (q1 ^^^ (7237128888997146477 : Int64)), (q0 ^^^ (7816392313619706465 : Int64)), (q1 ^^^ (8387220255154660723 : Int64))))))))))))) ∧ Fr n0 L ∧ (h = h0)) 0 0 := by
  refine own_body (plainFor_of_name opn_com_example_structlane_structlane_header_SipHash) ?_
  intro p e s m below meth c s1 hx hby hml hown hnm hret hlk hZ X0 e0
  rw [oef_rm_hash3 m ra rb u2 u3]
  have N0 := Fr.nil n0
  have hu := rng32 u2
  have hlen := own_sub u3 u2 ⟨hs, hE.1⟩
  have hB := own_blk (by omega) hD
  simp only [Int32.reduceToInt] at hB
  refine own_aloadN X0 hx (hb hby d9_0) rfl rfl (pc' := 1) rfl ?_
  refine own_getF X0 hx hZ hown (ow_36 hw) e0 P0 (hb hby d9_1) (pc' := 4) rfl ?_
  intro T1 X1 e1
  refine own_ldc2 X1 hx hZ hown (ow_45 hw) (hb hby d9_4) (pc' := 7) rfl ?_
  refine own_lxor X1 hx (hb hby d9_7) (pc' := 8) rfl ?_
  refine own_lstore X1 hx (hb hby d9_8) (l' := #[vR ra, vR rb, vI u2, vI u3, vL (q0 ^^^ (8317987319222330741 : Int64)), vS, vU, vU, vU, vU, vU, vU, vU, vU, vU, vU, vU, vU, vU, vU]) rfl (pc' := 10) rfl ?_
  refine own_aloadN X1 hx (hb hby d9_10) rfl rfl (pc' := 11) rfl ?_
  refine own_getF X1 hx hZ hown (ow_38 hw) e1 P1 (hb hby d9_11) (pc' := 14) rfl ?_
  intro T2 X2 e2
  refine own_ldc2 X2 hx hZ hown (ow_46 hw) (hb hby d9_14) (pc' := 17) rfl ?_
  refine own_lxor X2 hx (hb hby d9_17) (pc' := 18) rfl ?_
  refine own_lstore X2 hx (hb hby d9_18) (l' := #[vR ra, vR rb, vI u2, vI u3, vL (q0 ^^^ (8317987319222330741 : Int64)), vS, vL (q1 ^^^ (7237128888997146477 : Int64)), vS, vU, vU, vU, vU, vU, vU, vU, vU, vU, vU, vU, vU]) rfl (pc' := 20) rfl ?_
  refine own_aloadN X2 hx (hb hby d9_20) rfl rfl (pc' := 21) rfl ?_
  refine own_getF X2 hx hZ hown (ow_36 hw) e2 P0 (hb hby d9_21) (pc' := 24) rfl ?_
  intro T3 X3 e3
  refine own_ldc2 X3 hx hZ hown (ow_47 hw) (hb hby d9_24) (pc' := 27) rfl ?_
  refine own_lxor X3 hx (hb hby d9_27) (pc' := 28) rfl ?_
  refine own_lstore X3 hx (hb hby d9_28) (l' := #[vR ra, vR rb, vI u2, vI u3, vL (q0 ^^^ (8317987319222330741 : Int64)), vS, vL (q1 ^^^ (7237128888997146477 : Int64)), vS, vL (q0 ^^^ (7816392313619706465 : Int64)), vS, vU, vU, vU, vU, vU, vU, vU, vU, vU, vU]) rfl (pc' := 30) rfl ?_
  refine own_aloadN X3 hx (hb hby d9_30) rfl rfl (pc' := 31) rfl ?_
  refine own_getF X3 hx hZ hown (ow_38 hw) e3 P1 (hb hby d9_31) (pc' := 34) rfl ?_
  intro T4 X4 e4
  refine own_ldc2 X4 hx hZ hown (ow_48 hw) (hb hby d9_34) (pc' := 37) rfl ?_
  refine own_lxor X4 hx (hb hby d9_37) (pc' := 38) rfl ?_
  refine own_lstore X4 hx (hb hby d9_38) (l' := #[vR ra, vR rb, vI u2, vI u3, vL (q0 ^^^ (8317987319222330741 : Int64)), vS, vL (q1 ^^^ (7237128888997146477 : Int64)), vS, vL (q0 ^^^ (7816392313619706465 : Int64)), vS, vL (q1 ^^^ (8387220255154660723 : Int64)), vS, vU, vU, vU, vU, vU, vU, vU, vU]) rfl (pc' := 40) rfl ?_
  refine own_iloadN X4 hx (hb hby d9_40) rfl (pc' := 41) rfl ?_
  refine own_iloadN X4 hx (hb hby d9_41) rfl (pc' := 42) rfl ?_
  refine own_isub X4 hx (hb hby d9_42) (pc' := 43) rfl ?_
  refine own_istore X4 hx (hb hby d9_43) (l' := #[vR ra, vR rb, vI u2, vI u3, vL (q0 ^^^ (8317987319222330741 : Int64)), vS, vL (q1 ^^^ (7237128888997146477 : Int64)), vS, vL (q0 ^^^ (7816392313619706465 : Int64)), vS, vL (q1 ^^^ (8387220255154660723 : Int64)), vS, vI (u3 - u2), vU, vU, vU, vU, vU, vU, vU]) rfl (pc' := 45) rfl ?_
  refine own_iload X4 hx (hb hby d9_45) rfl (pc' := 47) rfl ?_
  refine own_bipush X4 hx (hb hby d9_47) (z := (8 : Int32)) (by decide) (pc' := 49) rfl ?_
  refine own_idiv X4 hx (hb hby d9_49) (by decide) (pc' := 50) rfl ?_
  rw [hD]
  refine own_iconst X4 hx (hb hby d9_50) (z := (1 : Int32)) rfl (pc' := 51) rfl ?_
  refine own_iadd X4 hx (hb hby d9_51) (pc' := 52) rfl ?_
  refine own_istore X4 hx (hb hby d9_52) (l' := #[vR ra, vR rb, vI u2, vI u3, vL (q0 ^^^ (8317987319222330741 : Int64)), vS, vL (q1 ^^^ (7237128888997146477 : Int64)), vS, vL (q0 ^^^ (7816392313619706465 : Int64)), vS, vL (q1 ^^^ (8387220255154660723 : Int64)), vS, vI (u3 - u2), vI ((3 : Int32) + (1 : Int32)), vU, vU, vU, vU, vU, vU]) rfl (pc' := 54) rfl ?_
  refine own_iconst X4 hx (hb hby d9_54) (z := (0 : Int32)) rfl (pc' := 55) rfl ?_
  refine own_istore X4 hx (hb hby d9_55) (l' := #[vR ra, vR rb, vI u2, vI u3, vL (q0 ^^^ (8317987319222330741 : Int64)), vS, vL (q1 ^^^ (7237128888997146477 : Int64)), vS, vL (q0 ^^^ (7816392313619706465 : Int64)), vS, vL (q1 ^^^ (8387220255154660723 : Int64)), vS, vI (u3 - u2), vI ((3 : Int32) + (1 : Int32)), vI (0 : Int32), vU, vU, vU, vU, vU]) rfl (pc' := 57) rfl ?_
  show own_G p e below s _ _ _ (T4.setTop (mkF m 57 #[vR ra, vR rb, vI u2, vI u3, vL ((((q0 ^^^ (8317987319222330741 : Int64)), (q1 ^^^ (7237128888997146477 : Int64)), (q0 ^^^ (7816392313619706465 : Int64)), (q1 ^^^ (8387220255154660723 : Int64))) : own_S).1), vS, vL ((((q0 ^^^ (8317987319222330741 : Int64)), (q1 ^^^ (7237128888997146477 : Int64)), (q0 ^^^ (7816392313619706465 : Int64)), (q1 ^^^ (8387220255154660723 : Int64))) : own_S).2.1), vS, vL ((((q0 ^^^ (8317987319222330741 : Int64)), (q1 ^^^ (7237128888997146477 : Int64)), (q0 ^^^ (7816392313619706465 : Int64)), (q1 ^^^ (8387220255154660723 : Int64))) : own_S).2.2.1), vS, vL ((((q0 ^^^ (8317987319222330741 : Int64)), (q1 ^^^ (7237128888997146477 : Int64)), (q0 ^^^ (7816392313619706465 : Int64)), (q1 ^^^ (8387220255154660723 : Int64))) : own_S).2.2.2), vS, vI (u3 - u2), vI ((3 : Int32) + (1 : Int32)), vI (0 : Int32), vU, vU, vU, vU, vU] []))
  generalize ht0 : (((q0 ^^^ (8317987319222330741 : Int64)), (q1 ^^^ (7237128888997146477 : Int64)), (q0 ^^^ (7816392313619706465 : Int64)), (q1 ^^^ (8387220255154660723 : Int64))) : own_S) = t0
  refine own_iload X4 hx (hb hby d9_57) rfl (pc' := 59) rfl ?_
  refine own_iload X4 hx (hb hby d9_59) rfl (pc' := 61) rfl ?_
  refine own_iconst X4 hx (hb hby d9_61) (z := (3 : Int32)) rfl (pc' := 62) rfl ?_
  refine own_iadd X4 hx (hb hby d9_62) (pc' := 63) rfl ?_
  refine own_icmpF X4 hx (hb hby d9_63) (by decide) (pc' := 66) rfl ?_
  refine own_lconst X4 hx (hb hby d9_66) (z := (0 : Int64)) (by decide) (pc' := 67) rfl ?_
  refine own_lstore X4 hx (hb hby d9_67) (l' := #[vR ra, vR rb, vI u2, vI u3, vL t0.1, vS, vL t0.2.1, vS, vL t0.2.2.1, vS, vL t0.2.2.2, vS, vI (u3 - u2), vI ((3 : Int32) + (1 : Int32)), vI (0 : Int32), vL (0 : Int64), vS, vU, vU, vU]) rfl (pc' := 69) rfl ?_
  refine own_iload X4 hx (hb hby d9_69) rfl (pc' := 71) rfl ?_
  refine own_iload X4 hx (hb hby d9_71) rfl (pc' := 73) rfl ?_
  refine own_icmpF X4 hx (hb hby d9_73) (by decide) (pc' := 76) rfl ?_
  refine own_iloadN X4 hx (hb hby d9_76) rfl (pc' := 77) rfl ?_
  refine own_iload X4 hx (hb hby d9_77) rfl (pc' := 79) rfl ?_
  refine own_bipush X4 hx (hb hby d9_79) (z := (8 : Int32)) (by decide) (pc' := 81) rfl ?_
  refine own_imul X4 hx (hb hby d9_81) (pc' := 82) rfl ?_
  refine own_iadd X4 hx (hb hby d9_82) (pc' := 83) rfl ?_
  refine own_istore X4 hx (hb hby d9_83) (l' := #[vR ra, vR rb, vI u2, vI u3, vL t0.1, vS, vL t0.2.1, vS, vL t0.2.2.1, vS, vL t0.2.2.2, vS, vI (u3 - u2), vI ((3 : Int32) + (1 : Int32)), vI (0 : Int32), vL (0 : Int64), vS, vI (u2 + ((0 : Int32) * (8 : Int32))), vU, vU]) rfl (pc' := 85) rfl ?_
  have ho0 := own_offk u2 (0 : Int32) ⟨hs, by omega⟩ (by decide)
  rw [show ((0 : Int32)).toInt = 0 from by decide] at ho0
  have hd0 := own_sub u3 (u2 + ((0 : Int32) * (8 : Int32))) (by omega)
  have hk0 : ¬ ((u3 - (u2 + ((0 : Int32) * (8 : Int32))))) < (8 : Int32) := by simp only [Int32.lt_iff_toInt_lt, Int32.reduceToInt]; omega
  refine own_iloadN X4 hx (hb hby d9_85) rfl (pc' := 86) rfl ?_
  refine own_iload X4 hx (hb hby d9_86) rfl (pc' := 88) rfl ?_
  refine own_isub X4 hx (hb hby d9_88) (pc' := 89) rfl ?_
  refine own_bipush X4 hx (hb hby d9_89) (z := (8 : Int32)) (by decide) (pc' := 91) rfl ?_
  refine own_icmpT X4 hx (hb hby d9_91) (flt hk0).2.1 (by decide) (pc' := 98) rfl ?_
  refine own_iload X4 hx (hb hby d9_98) rfl (pc' := 100) rfl ?_
  refine own_bipush X4 hx (hb hby d9_100) (z := (8 : Int32)) (by decide) (pc' := 102) rfl ?_
  refine own_iadd X4 hx (hb hby d9_102) (pc' := 103) rfl ?_
  refine own_istore X4 hx (hb hby d9_103) (l' := #[vR ra, vR rb, vI u2, vI u3, vL t0.1, vS, vL t0.2.1, vS, vL t0.2.2.1, vS, vL t0.2.2.2, vS, vI (u3 - u2), vI ((3 : Int32) + (1 : Int32)), vI (0 : Int32), vL (0 : Int64), vS, vI (u2 + ((0 : Int32) * (8 : Int32))), vI ((u2 + ((0 : Int32) * (8 : Int32))) + (8 : Int32)), vU]) rfl (pc' := 105) rfl ?_
  refine own_iload X4 hx (hb hby d9_105) rfl (pc' := 107) rfl ?_
  refine own_iconst X4 hx (hb hby d9_107) (z := (1 : Int32)) rfl (pc' := 108) rfl ?_
  refine own_isub X4 hx (hb hby d9_108) (pc' := 109) rfl ?_
  refine own_istore X4 hx (hb hby d9_109) (l' := #[vR ra, vR rb, vI u2, vI u3, vL t0.1, vS, vL t0.2.1, vS, vL t0.2.2.1, vS, vL t0.2.2.2, vS, vI (u3 - u2), vI ((3 : Int32) + (1 : Int32)), vI (0 : Int32), vL (0 : Int64), vS, vI (u2 + ((0 : Int32) * (8 : Int32))), vI ((u2 + ((0 : Int32) * (8 : Int32))) + (8 : Int32)), vI (((u2 + ((0 : Int32) * (8 : Int32))) + (8 : Int32)) - (1 : Int32))]) rfl (pc' := 111) rfl ?_
  have hl0 := own_addk (u2 + ((0 : Int32) * (8 : Int32))) (8 : Int32) (by omega) (by decide)
  simp only [Int32.reduceToInt] at hl0
  have hm0 : (((u2 + ((0 : Int32) * (8 : Int32))) + (8 : Int32))).toInt = ((u2 + ((0 : Int32) * (8 : Int32)))).toInt + (8 : Nat) := by omega
  refine own_inner X4 hx hby hZ e4 ra rb gg P2 u2 u3 (u3 - u2) ((3 : Int32) + (1 : Int32)) (0 : Int32) (u2 + ((0 : Int32) * (8 : Int32))) ((u2 + ((0 : Int32) * (8 : Int32))) + (8 : Int32)) t0.1 t0.2.1 t0.2.2.1 t0.2.2.2 (by omega) 8 (((u2 + ((0 : Int32) * (8 : Int32))) + (8 : Int32)) - (1 : Int32)) 0 (own_j ((u2 + ((0 : Int32) * (8 : Int32))) + (8 : Int32)) (u2 + ((0 : Int32) * (8 : Int32))) 8 hm0 (by omega) (by omega)) (by omega) ?_
  rw [Nat.add_zero, own_Hle gg (u2 + ((0 : Int32) * (8 : Int32))) (8 : Int32) 8 (by omega) rfl]
  refine own_iload X4 hx (hb hby d9_141) rfl (pc' := 143) rfl ?_
  refine own_iload X4 hx (hb hby d9_143) rfl (pc' := 145) rfl ?_
  refine own_iconst X4 hx (hb hby d9_145) (z := (1 : Int32)) rfl (pc' := 146) rfl ?_
  refine own_isub X4 hx (hb hby d9_146) (pc' := 147) rfl ?_
  refine own_icmpT X4 hx (hb hby d9_147) (by decide) (by decide) (pc' := 161) rfl ?_
  refine own_goto X4 hx (hb hby d9_161) (by decide) (pc' := 179) rfl ?_
  generalize hM0 : (own_le8 gg (u2 + ((0 : Int32) * (8 : Int32))) (8 : Int32)) = m0
  generalize ((u2 + ((0 : Int32) * (8 : Int32))) + (-1 : Int32)) = ob0
  generalize ((u2 + ((0 : Int32) * (8 : Int32))) + (8 : Int32)) = oc0
  generalize (u2 + ((0 : Int32) * (8 : Int32))) = oa0
  refine own_lload X4 hx (hb hby d9_179) rfl (pc' := 181) rfl ?_
  refine own_lload X4 hx (hb hby d9_181) rfl (pc' := 183) rfl ?_
  refine own_lxor X4 hx (hb hby d9_183) (pc' := 184) rfl ?_
  refine own_lstore X4 hx (hb hby d9_184) (l' := #[vR ra, vR rb, vI u2, vI u3, vL t0.1, vS, vL t0.2.1, vS, vL t0.2.2.1, vS, vL (t0.2.2.2 ^^^ m0), vS, vI (u3 - u2), vI ((3 : Int32) + (1 : Int32)), vI (0 : Int32), vL m0, vS, vI oa0, vI oc0, vI ob0]) rfl (pc' := 186) rfl ?_
  refine own_lload X4 hx (hb hby d9_186) rfl (pc' := 188) rfl ?_
  refine own_lload X4 hx (hb hby d9_188) rfl (pc' := 190) rfl ?_
  refine own_ladd X4 hx (hb hby d9_190) (pc' := 191) rfl ?_
  refine own_lstore X4 hx (hb hby d9_191) (l' := #[vR ra, vR rb, vI u2, vI u3, vL (t0.1 + t0.2.1), vS, vL t0.2.1, vS, vL t0.2.2.1, vS, vL (t0.2.2.2 ^^^ m0), vS, vI (u3 - u2), vI ((3 : Int32) + (1 : Int32)), vI (0 : Int32), vL m0, vS, vI oa0, vI oc0, vI ob0]) rfl (pc' := 193) rfl ?_
  refine own_lload X4 hx (hb hby d9_193) rfl (pc' := 195) rfl ?_
  refine own_bipush X4 hx (hb hby d9_195) (z := (13 : Int32)) (by decide) (pc' := 197) rfl ?_
  refine own_lshl X4 hx (hb hby d9_197) (pc' := 198) rfl ?_
  refine own_lload X4 hx (hb hby d9_198) rfl (pc' := 200) rfl ?_
  refine own_bipush X4 hx (hb hby d9_200) (z := (51 : Int32)) (by decide) (pc' := 202) rfl ?_
  refine own_lushr X4 hx (hb hby d9_202) (pc' := 203) rfl ?_
  refine own_lor X4 hx (hb hby d9_203) (pc' := 204) rfl ?_
  rw [own_r13]
  refine own_lstore X4 hx (hb hby d9_204) (l' := #[vR ra, vR rb, vI u2, vI u3, vL (t0.1 + t0.2.1), vS, vL (own_rot t0.2.1 (13 : Int32)), vS, vL t0.2.2.1, vS, vL (t0.2.2.2 ^^^ m0), vS, vI (u3 - u2), vI ((3 : Int32) + (1 : Int32)), vI (0 : Int32), vL m0, vS, vI oa0, vI oc0, vI ob0]) rfl (pc' := 206) rfl ?_
  refine own_lload X4 hx (hb hby d9_206) rfl (pc' := 208) rfl ?_
  refine own_lload X4 hx (hb hby d9_208) rfl (pc' := 210) rfl ?_
  refine own_lxor X4 hx (hb hby d9_210) (pc' := 211) rfl ?_
  refine own_lstore X4 hx (hb hby d9_211) (l' := #[vR ra, vR rb, vI u2, vI u3, vL (t0.1 + t0.2.1), vS, vL ((own_rot t0.2.1 (13 : Int32)) ^^^ (t0.1 + t0.2.1)), vS, vL t0.2.2.1, vS, vL (t0.2.2.2 ^^^ m0), vS, vI (u3 - u2), vI ((3 : Int32) + (1 : Int32)), vI (0 : Int32), vL m0, vS, vI oa0, vI oc0, vI ob0]) rfl (pc' := 213) rfl ?_
  refine own_lload X4 hx (hb hby d9_213) rfl (pc' := 215) rfl ?_
  refine own_bipush X4 hx (hb hby d9_215) (z := (32 : Int32)) (by decide) (pc' := 217) rfl ?_
  refine own_lshl X4 hx (hb hby d9_217) (pc' := 218) rfl ?_
  refine own_lload X4 hx (hb hby d9_218) rfl (pc' := 220) rfl ?_
  refine own_bipush X4 hx (hb hby d9_220) (z := (32 : Int32)) (by decide) (pc' := 222) rfl ?_
  refine own_lushr X4 hx (hb hby d9_222) (pc' := 223) rfl ?_
  refine own_lor X4 hx (hb hby d9_223) (pc' := 224) rfl ?_
  rw [own_r32]
  refine own_lstore X4 hx (hb hby d9_224) (l' := #[vR ra, vR rb, vI u2, vI u3, vL (own_rot (t0.1 + t0.2.1) (32 : Int32)), vS, vL ((own_rot t0.2.1 (13 : Int32)) ^^^ (t0.1 + t0.2.1)), vS, vL t0.2.2.1, vS, vL (t0.2.2.2 ^^^ m0), vS, vI (u3 - u2), vI ((3 : Int32) + (1 : Int32)), vI (0 : Int32), vL m0, vS, vI oa0, vI oc0, vI ob0]) rfl (pc' := 226) rfl ?_
  refine own_lload X4 hx (hb hby d9_226) rfl (pc' := 228) rfl ?_
  refine own_lload X4 hx (hb hby d9_228) rfl (pc' := 230) rfl ?_
  refine own_ladd X4 hx (hb hby d9_230) (pc' := 231) rfl ?_
  refine own_lstore X4 hx (hb hby d9_231) (l' := #[vR ra, vR rb, vI u2, vI u3, vL (own_rot (t0.1 + t0.2.1) (32 : Int32)), vS, vL ((own_rot t0.2.1 (13 : Int32)) ^^^ (t0.1 + t0.2.1)), vS, vL (t0.2.2.1 + (t0.2.2.2 ^^^ m0)), vS, vL (t0.2.2.2 ^^^ m0), vS, vI (u3 - u2), vI ((3 : Int32) + (1 : Int32)), vI (0 : Int32), vL m0, vS, vI oa0, vI oc0, vI ob0]) rfl (pc' := 233) rfl ?_
  refine own_lload X4 hx (hb hby d9_233) rfl (pc' := 235) rfl ?_
  refine own_bipush X4 hx (hb hby d9_235) (z := (16 : Int32)) (by decide) (pc' := 237) rfl ?_
  refine own_lshl X4 hx (hb hby d9_237) (pc' := 238) rfl ?_
  refine own_lload X4 hx (hb hby d9_238) rfl (pc' := 240) rfl ?_
  refine own_bipush X4 hx (hb hby d9_240) (z := (48 : Int32)) (by decide) (pc' := 242) rfl ?_
  refine own_lushr X4 hx (hb hby d9_242) (pc' := 243) rfl ?_
  refine own_lor X4 hx (hb hby d9_243) (pc' := 244) rfl ?_
  rw [own_r16]
  refine own_lstore X4 hx (hb hby d9_244) (l' := #[vR ra, vR rb, vI u2, vI u3, vL (own_rot (t0.1 + t0.2.1) (32 : Int32)), vS, vL ((own_rot t0.2.1 (13 : Int32)) ^^^ (t0.1 + t0.2.1)), vS, vL (t0.2.2.1 + (t0.2.2.2 ^^^ m0)), vS, vL (own_rot (t0.2.2.2 ^^^ m0) (16 : Int32)), vS, vI (u3 - u2), vI ((3 : Int32) + (1 : Int32)), vI (0 : Int32), vL m0, vS, vI oa0, vI oc0, vI ob0]) rfl (pc' := 246) rfl ?_
  refine own_lload X4 hx (hb hby d9_246) rfl (pc' := 248) rfl ?_
  refine own_lload X4 hx (hb hby d9_248) rfl (pc' := 250) rfl ?_
  refine own_lxor X4 hx (hb hby d9_250) (pc' := 251) rfl ?_
  refine own_lstore X4 hx (hb hby d9_251) (l' := #[vR ra, vR rb, vI u2, vI u3, vL (own_rot (t0.1 + t0.2.1) (32 : Int32)), vS, vL ((own_rot t0.2.1 (13 : Int32)) ^^^ (t0.1 + t0.2.1)), vS, vL (t0.2.2.1 + (t0.2.2.2 ^^^ m0)), vS, vL ((own_rot (t0.2.2.2 ^^^ m0) (16 : Int32)) ^^^ (t0.2.2.1 + (t0.2.2.2 ^^^ m0))), vS, vI (u3 - u2), vI ((3 : Int32) + (1 : Int32)), vI (0 : Int32), vL m0, vS, vI oa0, vI oc0, vI ob0]) rfl (pc' := 253) rfl ?_
  refine own_lload X4 hx (hb hby d9_253) rfl (pc' := 255) rfl ?_
  refine own_lload X4 hx (hb hby d9_255) rfl (pc' := 257) rfl ?_
  refine own_ladd X4 hx (hb hby d9_257) (pc' := 258) rfl ?_
  refine own_lstore X4 hx (hb hby d9_258) (l' := #[vR ra, vR rb, vI u2, vI u3, vL ((own_rot (t0.1 + t0.2.1) (32 : Int32)) + ((own_rot (t0.2.2.2 ^^^ m0) (16 : Int32)) ^^^ (t0.2.2.1 + (t0.2.2.2 ^^^ m0)))), vS, vL ((own_rot t0.2.1 (13 : Int32)) ^^^ (t0.1 + t0.2.1)), vS, vL (t0.2.2.1 + (t0.2.2.2 ^^^ m0)), vS, vL ((own_rot (t0.2.2.2 ^^^ m0) (16 : Int32)) ^^^ (t0.2.2.1 + (t0.2.2.2 ^^^ m0))), vS, vI (u3 - u2), vI ((3 : Int32) + (1 : Int32)), vI (0 : Int32), vL m0, vS, vI oa0, vI oc0, vI ob0]) rfl (pc' := 260) rfl ?_
  refine own_lload X4 hx (hb hby d9_260) rfl (pc' := 262) rfl ?_
  refine own_bipush X4 hx (hb hby d9_262) (z := (21 : Int32)) (by decide) (pc' := 264) rfl ?_
  refine own_lshl X4 hx (hb hby d9_264) (pc' := 265) rfl ?_
  refine own_lload X4 hx (hb hby d9_265) rfl (pc' := 267) rfl ?_
  refine own_bipush X4 hx (hb hby d9_267) (z := (43 : Int32)) (by decide) (pc' := 269) rfl ?_
  refine own_lushr X4 hx (hb hby d9_269) (pc' := 270) rfl ?_
  refine own_lor X4 hx (hb hby d9_270) (pc' := 271) rfl ?_
  rw [own_r21]
  refine own_lstore X4 hx (hb hby d9_271) (l' := #[vR ra, vR rb, vI u2, vI u3, vL ((own_rot (t0.1 + t0.2.1) (32 : Int32)) + ((own_rot (t0.2.2.2 ^^^ m0) (16 : Int32)) ^^^ (t0.2.2.1 + (t0.2.2.2 ^^^ m0)))), vS, vL ((own_rot t0.2.1 (13 : Int32)) ^^^ (t0.1 + t0.2.1)), vS, vL (t0.2.2.1 + (t0.2.2.2 ^^^ m0)), vS, vL (own_rot ((own_rot (t0.2.2.2 ^^^ m0) (16 : Int32)) ^^^ (t0.2.2.1 + (t0.2.2.2 ^^^ m0))) (21 : Int32)), vS, vI (u3 - u2), vI ((3 : Int32) + (1 : Int32)), vI (0 : Int32), vL m0, vS, vI oa0, vI oc0, vI ob0]) rfl (pc' := 273) rfl ?_
  refine own_lload X4 hx (hb hby d9_273) rfl (pc' := 275) rfl ?_
  refine own_lload X4 hx (hb hby d9_275) rfl (pc' := 277) rfl ?_
  refine own_lxor X4 hx (hb hby d9_277) (pc' := 278) rfl ?_
  refine own_lstore X4 hx (hb hby d9_278) (l' := #[vR ra, vR rb, vI u2, vI u3, vL ((own_rot (t0.1 + t0.2.1) (32 : Int32)) + ((own_rot (t0.2.2.2 ^^^ m0) (16 : Int32)) ^^^ (t0.2.2.1 + (t0.2.2.2 ^^^ m0)))), vS, vL ((own_rot t0.2.1 (13 : Int32)) ^^^ (t0.1 + t0.2.1)), vS, vL (t0.2.2.1 + (t0.2.2.2 ^^^ m0)), vS, vL ((own_rot ((own_rot (t0.2.2.2 ^^^ m0) (16 : Int32)) ^^^ (t0.2.2.1 + (t0.2.2.2 ^^^ m0))) (21 : Int32)) ^^^ ((own_rot (t0.1 + t0.2.1) (32 : Int32)) + ((own_rot (t0.2.2.2 ^^^ m0) (16 : Int32)) ^^^ (t0.2.2.1 + (t0.2.2.2 ^^^ m0))))), vS, vI (u3 - u2), vI ((3 : Int32) + (1 : Int32)), vI (0 : Int32), vL m0, vS, vI oa0, vI oc0, vI ob0]) rfl (pc' := 280) rfl ?_
  refine own_lload X4 hx (hb hby d9_280) rfl (pc' := 282) rfl ?_
  refine own_lload X4 hx (hb hby d9_282) rfl (pc' := 284) rfl ?_
  refine own_ladd X4 hx (hb hby d9_284) (pc' := 285) rfl ?_
  refine own_lstore X4 hx (hb hby d9_285) (l' := #[vR ra, vR rb, vI u2, vI u3, vL ((own_rot (t0.1 + t0.2.1) (32 : Int32)) + ((own_rot (t0.2.2.2 ^^^ m0) (16 : Int32)) ^^^ (t0.2.2.1 + (t0.2.2.2 ^^^ m0)))), vS, vL ((own_rot t0.2.1 (13 : Int32)) ^^^ (t0.1 + t0.2.1)), vS, vL ((t0.2.2.1 + (t0.2.2.2 ^^^ m0)) + ((own_rot t0.2.1 (13 : Int32)) ^^^ (t0.1 + t0.2.1))), vS, vL ((own_rot ((own_rot (t0.2.2.2 ^^^ m0) (16 : Int32)) ^^^ (t0.2.2.1 + (t0.2.2.2 ^^^ m0))) (21 : Int32)) ^^^ ((own_rot (t0.1 + t0.2.1) (32 : Int32)) + ((own_rot (t0.2.2.2 ^^^ m0) (16 : Int32)) ^^^ (t0.2.2.1 + (t0.2.2.2 ^^^ m0))))), vS, vI (u3 - u2), vI ((3 : Int32) + (1 : Int32)), vI (0 : Int32), vL m0, vS, vI oa0, vI oc0, vI ob0]) rfl (pc' := 287) rfl ?_
  refine own_lload X4 hx (hb hby d9_287) rfl (pc' := 289) rfl ?_
  refine own_bipush X4 hx (hb hby d9_289) (z := (17 : Int32)) (by decide) (pc' := 291) rfl ?_
  refine own_lshl X4 hx (hb hby d9_291) (pc' := 292) rfl ?_
  refine own_lload X4 hx (hb hby d9_292) rfl (pc' := 294) rfl ?_
  refine own_bipush X4 hx (hb hby d9_294) (z := (47 : Int32)) (by decide) (pc' := 296) rfl ?_
  refine own_lushr X4 hx (hb hby d9_296) (pc' := 297) rfl ?_
  refine own_lor X4 hx (hb hby d9_297) (pc' := 298) rfl ?_
  rw [own_r17]
  refine own_lstore X4 hx (hb hby d9_298) (l' := #[vR ra, vR rb, vI u2, vI u3, vL ((own_rot (t0.1 + t0.2.1) (32 : Int32)) + ((own_rot (t0.2.2.2 ^^^ m0) (16 : Int32)) ^^^ (t0.2.2.1 + (t0.2.2.2 ^^^ m0)))), vS, vL (own_rot ((own_rot t0.2.1 (13 : Int32)) ^^^ (t0.1 + t0.2.1)) (17 : Int32)), vS, vL ((t0.2.2.1 + (t0.2.2.2 ^^^ m0)) + ((own_rot t0.2.1 (13 : Int32)) ^^^ (t0.1 + t0.2.1))), vS, vL ((own_rot ((own_rot (t0.2.2.2 ^^^ m0) (16 : Int32)) ^^^ (t0.2.2.1 + (t0.2.2.2 ^^^ m0))) (21 : Int32)) ^^^ ((own_rot (t0.1 + t0.2.1) (32 : Int32)) + ((own_rot (t0.2.2.2 ^^^ m0) (16 : Int32)) ^^^ (t0.2.2.1 + (t0.2.2.2 ^^^ m0))))), vS, vI (u3 - u2), vI ((3 : Int32) + (1 : Int32)), vI (0 : Int32), vL m0, vS, vI oa0, vI oc0, vI ob0]) rfl (pc' := 300) rfl ?_
  refine own_lload X4 hx (hb hby d9_300) rfl (pc' := 302) rfl ?_
  refine own_lload X4 hx (hb hby d9_302) rfl (pc' := 304) rfl ?_
  refine own_lxor X4 hx (hb hby d9_304) (pc' := 305) rfl ?_
  refine own_lstore X4 hx (hb hby d9_305) (l' := #[vR ra, vR rb, vI u2, vI u3, vL ((own_rot (t0.1 + t0.2.1) (32 : Int32)) + ((own_rot (t0.2.2.2 ^^^ m0) (16 : Int32)) ^^^ (t0.2.2.1 + (t0.2.2.2 ^^^ m0)))), vS, vL ((own_rot ((own_rot t0.2.1 (13 : Int32)) ^^^ (t0.1 + t0.2.1)) (17 : Int32)) ^^^ ((t0.2.2.1 + (t0.2.2.2 ^^^ m0)) + ((own_rot t0.2.1 (13 : Int32)) ^^^ (t0.1 + t0.2.1)))), vS, vL ((t0.2.2.1 + (t0.2.2.2 ^^^ m0)) + ((own_rot t0.2.1 (13 : Int32)) ^^^ (t0.1 + t0.2.1))), vS, vL ((own_rot ((own_rot (t0.2.2.2 ^^^ m0) (16 : Int32)) ^^^ (t0.2.2.1 + (t0.2.2.2 ^^^ m0))) (21 : Int32)) ^^^ ((own_rot (t0.1 + t0.2.1) (32 : Int32)) + ((own_rot (t0.2.2.2 ^^^ m0) (16 : Int32)) ^^^ (t0.2.2.1 + (t0.2.2.2 ^^^ m0))))), vS, vI (u3 - u2), vI ((3 : Int32) + (1 : Int32)), vI (0 : Int32), vL m0, vS, vI oa0, vI oc0, vI ob0]) rfl (pc' := 307) rfl ?_
  refine own_lload X4 hx (hb hby d9_307) rfl (pc' := 309) rfl ?_
  refine own_bipush X4 hx (hb hby d9_309) (z := (32 : Int32)) (by decide) (pc' := 311) rfl ?_
  refine own_lshl X4 hx (hb hby d9_311) (pc' := 312) rfl ?_
  refine own_lload X4 hx (hb hby d9_312) rfl (pc' := 314) rfl ?_
  refine own_bipush X4 hx (hb hby d9_314) (z := (32 : Int32)) (by decide) (pc' := 316) rfl ?_
  refine own_lushr X4 hx (hb hby d9_316) (pc' := 317) rfl ?_
  refine own_lor X4 hx (hb hby d9_317) (pc' := 318) rfl ?_
  rw [own_r32]
  refine own_lstore X4 hx (hb hby d9_318) (l' := #[vR ra, vR rb, vI u2, vI u3, vL ((own_rot (t0.1 + t0.2.1) (32 : Int32)) + ((own_rot (t0.2.2.2 ^^^ m0) (16 : Int32)) ^^^ (t0.2.2.1 + (t0.2.2.2 ^^^ m0)))), vS, vL ((own_rot ((own_rot t0.2.1 (13 : Int32)) ^^^ (t0.1 + t0.2.1)) (17 : Int32)) ^^^ ((t0.2.2.1 + (t0.2.2.2 ^^^ m0)) + ((own_rot t0.2.1 (13 : Int32)) ^^^ (t0.1 + t0.2.1)))), vS, vL (own_rot ((t0.2.2.1 + (t0.2.2.2 ^^^ m0)) + ((own_rot t0.2.1 (13 : Int32)) ^^^ (t0.1 + t0.2.1))) (32 : Int32)), vS, vL ((own_rot ((own_rot (t0.2.2.2 ^^^ m0) (16 : Int32)) ^^^ (t0.2.2.1 + (t0.2.2.2 ^^^ m0))) (21 : Int32)) ^^^ ((own_rot (t0.1 + t0.2.1) (32 : Int32)) + ((own_rot (t0.2.2.2 ^^^ m0) (16 : Int32)) ^^^ (t0.2.2.1 + (t0.2.2.2 ^^^ m0))))), vS, vI (u3 - u2), vI ((3 : Int32) + (1 : Int32)), vI (0 : Int32), vL m0, vS, vI oa0, vI oc0, vI ob0]) rfl (pc' := 320) rfl ?_
  refine own_lload X4 hx (hb hby d9_320) rfl (pc' := 322) rfl ?_
  refine own_lload X4 hx (hb hby d9_322) rfl (pc' := 324) rfl ?_
  refine own_lxor X4 hx (hb hby d9_324) (pc' := 325) rfl ?_
  refine own_lstore X4 hx (hb hby d9_325) (l' := #[vR ra, vR rb, vI u2, vI u3, vL (((own_rot (t0.1 + t0.2.1) (32 : Int32)) + ((own_rot (t0.2.2.2 ^^^ m0) (16 : Int32)) ^^^ (t0.2.2.1 + (t0.2.2.2 ^^^ m0)))) ^^^ m0), vS, vL ((own_rot ((own_rot t0.2.1 (13 : Int32)) ^^^ (t0.1 + t0.2.1)) (17 : Int32)) ^^^ ((t0.2.2.1 + (t0.2.2.2 ^^^ m0)) + ((own_rot t0.2.1 (13 : Int32)) ^^^ (t0.1 + t0.2.1)))), vS, vL (own_rot ((t0.2.2.1 + (t0.2.2.2 ^^^ m0)) + ((own_rot t0.2.1 (13 : Int32)) ^^^ (t0.1 + t0.2.1))) (32 : Int32)), vS, vL ((own_rot ((own_rot (t0.2.2.2 ^^^ m0) (16 : Int32)) ^^^ (t0.2.2.1 + (t0.2.2.2 ^^^ m0))) (21 : Int32)) ^^^ ((own_rot (t0.1 + t0.2.1) (32 : Int32)) + ((own_rot (t0.2.2.2 ^^^ m0) (16 : Int32)) ^^^ (t0.2.2.1 + (t0.2.2.2 ^^^ m0))))), vS, vI (u3 - u2), vI ((3 : Int32) + (1 : Int32)), vI (0 : Int32), vL m0, vS, vI oa0, vI oc0, vI ob0]) rfl (pc' := 327) rfl ?_
  refine own_iinc X4 hx (hb hby d9_327) rfl (z := (1 : Int32)) rfl (l' := #[vR ra, vR rb, vI u2, vI u3, vL (((own_rot (t0.1 + t0.2.1) (32 : Int32)) + ((own_rot (t0.2.2.2 ^^^ m0) (16 : Int32)) ^^^ (t0.2.2.1 + (t0.2.2.2 ^^^ m0)))) ^^^ m0), vS, vL ((own_rot ((own_rot t0.2.1 (13 : Int32)) ^^^ (t0.1 + t0.2.1)) (17 : Int32)) ^^^ ((t0.2.2.1 + (t0.2.2.2 ^^^ m0)) + ((own_rot t0.2.1 (13 : Int32)) ^^^ (t0.1 + t0.2.1)))), vS, vL (own_rot ((t0.2.2.1 + (t0.2.2.2 ^^^ m0)) + ((own_rot t0.2.1 (13 : Int32)) ^^^ (t0.1 + t0.2.1))) (32 : Int32)), vS, vL ((own_rot ((own_rot (t0.2.2.2 ^^^ m0) (16 : Int32)) ^^^ (t0.2.2.1 + (t0.2.2.2 ^^^ m0))) (21 : Int32)) ^^^ ((own_rot (t0.1 + t0.2.1) (32 : Int32)) + ((own_rot (t0.2.2.2 ^^^ m0) (16 : Int32)) ^^^ (t0.2.2.1 + (t0.2.2.2 ^^^ m0))))), vS, vI (u3 - u2), vI ((3 : Int32) + (1 : Int32)), vI ((0 : Int32) + (1 : Int32)), vL m0, vS, vI oa0, vI oc0, vI ob0]) rfl (pc' := 330) rfl ?_
  refine own_goto X4 hx (hb hby d9_330) (by decide) (pc' := 57) rfl ?_
  show own_G p e below s _ _ _ (T4.setTop (mkF m 57 #[vR ra, vR rb, vI u2, vI u3, vL ((own_comp m0 t0).1), vS, vL ((own_comp m0 t0).2.1), vS, vL ((own_comp m0 t0).2.2.1), vS, vL ((own_comp m0 t0).2.2.2), vS, vI (u3 - u2), vI ((3 : Int32) + (1 : Int32)), vI (1 : Int32), vL m0, vS, vI oa0, vI oc0, vI ob0] []))
  generalize ht1 : (own_comp m0 t0) = t1
  refine own_iload X4 hx (hb hby d9_57) rfl (pc' := 59) rfl ?_
  refine own_iload X4 hx (hb hby d9_59) rfl (pc' := 61) rfl ?_
  refine own_iconst X4 hx (hb hby d9_61) (z := (3 : Int32)) rfl (pc' := 62) rfl ?_
  refine own_iadd X4 hx (hb hby d9_62) (pc' := 63) rfl ?_
  refine own_icmpF X4 hx (hb hby d9_63) (by decide) (pc' := 66) rfl ?_
  refine own_lconst X4 hx (hb hby d9_66) (z := (0 : Int64)) (by decide) (pc' := 67) rfl ?_
  refine own_lstore X4 hx (hb hby d9_67) (l' := #[vR ra, vR rb, vI u2, vI u3, vL t1.1, vS, vL t1.2.1, vS, vL t1.2.2.1, vS, vL t1.2.2.2, vS, vI (u3 - u2), vI ((3 : Int32) + (1 : Int32)), vI (1 : Int32), vL (0 : Int64), vS, vI oa0, vI oc0, vI ob0]) rfl (pc' := 69) rfl ?_
  refine own_iload X4 hx (hb hby d9_69) rfl (pc' := 71) rfl ?_
  refine own_iload X4 hx (hb hby d9_71) rfl (pc' := 73) rfl ?_
  refine own_icmpF X4 hx (hb hby d9_73) (by decide) (pc' := 76) rfl ?_
  refine own_iloadN X4 hx (hb hby d9_76) rfl (pc' := 77) rfl ?_
  refine own_iload X4 hx (hb hby d9_77) rfl (pc' := 79) rfl ?_
  refine own_bipush X4 hx (hb hby d9_79) (z := (8 : Int32)) (by decide) (pc' := 81) rfl ?_
  refine own_imul X4 hx (hb hby d9_81) (pc' := 82) rfl ?_
  refine own_iadd X4 hx (hb hby d9_82) (pc' := 83) rfl ?_
  refine own_istore X4 hx (hb hby d9_83) (l' := #[vR ra, vR rb, vI u2, vI u3, vL t1.1, vS, vL t1.2.1, vS, vL t1.2.2.1, vS, vL t1.2.2.2, vS, vI (u3 - u2), vI ((3 : Int32) + (1 : Int32)), vI (1 : Int32), vL (0 : Int64), vS, vI (u2 + ((1 : Int32) * (8 : Int32))), vI oc0, vI ob0]) rfl (pc' := 85) rfl ?_
  have ho1 := own_offk u2 (1 : Int32) ⟨hs, by omega⟩ (by decide)
  rw [show ((1 : Int32)).toInt = 1 from by decide] at ho1
  have hd1 := own_sub u3 (u2 + ((1 : Int32) * (8 : Int32))) (by omega)
  have hk1 : ¬ ((u3 - (u2 + ((1 : Int32) * (8 : Int32))))) < (8 : Int32) := by simp only [Int32.lt_iff_toInt_lt, Int32.reduceToInt]; omega
  refine own_iloadN X4 hx (hb hby d9_85) rfl (pc' := 86) rfl ?_
  refine own_iload X4 hx (hb hby d9_86) rfl (pc' := 88) rfl ?_
  refine own_isub X4 hx (hb hby d9_88) (pc' := 89) rfl ?_
  refine own_bipush X4 hx (hb hby d9_89) (z := (8 : Int32)) (by decide) (pc' := 91) rfl ?_
  refine own_icmpT X4 hx (hb hby d9_91) (flt hk1).2.1 (by decide) (pc' := 98) rfl ?_
  refine own_iload X4 hx (hb hby d9_98) rfl (pc' := 100) rfl ?_
  refine own_bipush X4 hx (hb hby d9_100) (z := (8 : Int32)) (by decide) (pc' := 102) rfl ?_
  refine own_iadd X4 hx (hb hby d9_102) (pc' := 103) rfl ?_
  refine own_istore X4 hx (hb hby d9_103) (l' := #[vR ra, vR rb, vI u2, vI u3, vL t1.1, vS, vL t1.2.1, vS, vL t1.2.2.1, vS, vL t1.2.2.2, vS, vI (u3 - u2), vI ((3 : Int32) + (1 : Int32)), vI (1 : Int32), vL (0 : Int64), vS, vI (u2 + ((1 : Int32) * (8 : Int32))), vI ((u2 + ((1 : Int32) * (8 : Int32))) + (8 : Int32)), vI ob0]) rfl (pc' := 105) rfl ?_
  refine own_iload X4 hx (hb hby d9_105) rfl (pc' := 107) rfl ?_
  refine own_iconst X4 hx (hb hby d9_107) (z := (1 : Int32)) rfl (pc' := 108) rfl ?_
  refine own_isub X4 hx (hb hby d9_108) (pc' := 109) rfl ?_
  refine own_istore X4 hx (hb hby d9_109) (l' := #[vR ra, vR rb, vI u2, vI u3, vL t1.1, vS, vL t1.2.1, vS, vL t1.2.2.1, vS, vL t1.2.2.2, vS, vI (u3 - u2), vI ((3 : Int32) + (1 : Int32)), vI (1 : Int32), vL (0 : Int64), vS, vI (u2 + ((1 : Int32) * (8 : Int32))), vI ((u2 + ((1 : Int32) * (8 : Int32))) + (8 : Int32)), vI (((u2 + ((1 : Int32) * (8 : Int32))) + (8 : Int32)) - (1 : Int32))]) rfl (pc' := 111) rfl ?_
  have hl1 := own_addk (u2 + ((1 : Int32) * (8 : Int32))) (8 : Int32) (by omega) (by decide)
  simp only [Int32.reduceToInt] at hl1
  have hm1 : (((u2 + ((1 : Int32) * (8 : Int32))) + (8 : Int32))).toInt = ((u2 + ((1 : Int32) * (8 : Int32)))).toInt + (8 : Nat) := by omega
  refine own_inner X4 hx hby hZ e4 ra rb gg P2 u2 u3 (u3 - u2) ((3 : Int32) + (1 : Int32)) (1 : Int32) (u2 + ((1 : Int32) * (8 : Int32))) ((u2 + ((1 : Int32) * (8 : Int32))) + (8 : Int32)) t1.1 t1.2.1 t1.2.2.1 t1.2.2.2 (by omega) 8 (((u2 + ((1 : Int32) * (8 : Int32))) + (8 : Int32)) - (1 : Int32)) 0 (own_j ((u2 + ((1 : Int32) * (8 : Int32))) + (8 : Int32)) (u2 + ((1 : Int32) * (8 : Int32))) 8 hm1 (by omega) (by omega)) (by omega) ?_
  rw [Nat.add_zero, own_Hle gg (u2 + ((1 : Int32) * (8 : Int32))) (8 : Int32) 8 (by omega) rfl]
  refine own_iload X4 hx (hb hby d9_141) rfl (pc' := 143) rfl ?_
  refine own_iload X4 hx (hb hby d9_143) rfl (pc' := 145) rfl ?_
  refine own_iconst X4 hx (hb hby d9_145) (z := (1 : Int32)) rfl (pc' := 146) rfl ?_
  refine own_isub X4 hx (hb hby d9_146) (pc' := 147) rfl ?_
  refine own_icmpT X4 hx (hb hby d9_147) (by decide) (by decide) (pc' := 161) rfl ?_
  refine own_goto X4 hx (hb hby d9_161) (by decide) (pc' := 179) rfl ?_
  generalize hM1 : (own_le8 gg (u2 + ((1 : Int32) * (8 : Int32))) (8 : Int32)) = m1
  generalize ((u2 + ((1 : Int32) * (8 : Int32))) + (-1 : Int32)) = ob1
  generalize ((u2 + ((1 : Int32) * (8 : Int32))) + (8 : Int32)) = oc1
  generalize (u2 + ((1 : Int32) * (8 : Int32))) = oa1
  refine own_lload X4 hx (hb hby d9_179) rfl (pc' := 181) rfl ?_
  refine own_lload X4 hx (hb hby d9_181) rfl (pc' := 183) rfl ?_
  refine own_lxor X4 hx (hb hby d9_183) (pc' := 184) rfl ?_
  refine own_lstore X4 hx (hb hby d9_184) (l' := #[vR ra, vR rb, vI u2, vI u3, vL t1.1, vS, vL t1.2.1, vS, vL t1.2.2.1, vS, vL (t1.2.2.2 ^^^ m1), vS, vI (u3 - u2), vI ((3 : Int32) + (1 : Int32)), vI (1 : Int32), vL m1, vS, vI oa1, vI oc1, vI ob1]) rfl (pc' := 186) rfl ?_
  refine own_lload X4 hx (hb hby d9_186) rfl (pc' := 188) rfl ?_
  refine own_lload X4 hx (hb hby d9_188) rfl (pc' := 190) rfl ?_
  refine own_ladd X4 hx (hb hby d9_190) (pc' := 191) rfl ?_
  refine own_lstore X4 hx (hb hby d9_191) (l' := #[vR ra, vR rb, vI u2, vI u3, vL (t1.1 + t1.2.1), vS, vL t1.2.1, vS, vL t1.2.2.1, vS, vL (t1.2.2.2 ^^^ m1), vS, vI (u3 - u2), vI ((3 : Int32) + (1 : Int32)), vI (1 : Int32), vL m1, vS, vI oa1, vI oc1, vI ob1]) rfl (pc' := 193) rfl ?_
  refine own_lload X4 hx (hb hby d9_193) rfl (pc' := 195) rfl ?_
  refine own_bipush X4 hx (hb hby d9_195) (z := (13 : Int32)) (by decide) (pc' := 197) rfl ?_
  refine own_lshl X4 hx (hb hby d9_197) (pc' := 198) rfl ?_
  refine own_lload X4 hx (hb hby d9_198) rfl (pc' := 200) rfl ?_
  refine own_bipush X4 hx (hb hby d9_200) (z := (51 : Int32)) (by decide) (pc' := 202) rfl ?_
  refine own_lushr X4 hx (hb hby d9_202) (pc' := 203) rfl ?_
  refine own_lor X4 hx (hb hby d9_203) (pc' := 204) rfl ?_
  rw [own_r13]
  refine own_lstore X4 hx (hb hby d9_204) (l' := #[vR ra, vR rb, vI u2, vI u3, vL (t1.1 + t1.2.1), vS, vL (own_rot t1.2.1 (13 : Int32)), vS, vL t1.2.2.1, vS, vL (t1.2.2.2 ^^^ m1), vS, vI (u3 - u2), vI ((3 : Int32) + (1 : Int32)), vI (1 : Int32), vL m1, vS, vI oa1, vI oc1, vI ob1]) rfl (pc' := 206) rfl ?_
  refine own_lload X4 hx (hb hby d9_206) rfl (pc' := 208) rfl ?_
  refine own_lload X4 hx (hb hby d9_208) rfl (pc' := 210) rfl ?_
  refine own_lxor X4 hx (hb hby d9_210) (pc' := 211) rfl ?_
  refine own_lstore X4 hx (hb hby d9_211) (l' := #[vR ra, vR rb, vI u2, vI u3, vL (t1.1 + t1.2.1), vS, vL ((own_rot t1.2.1 (13 : Int32)) ^^^ (t1.1 + t1.2.1)), vS, vL t1.2.2.1, vS, vL (t1.2.2.2 ^^^ m1), vS, vI (u3 - u2), vI ((3 : Int32) + (1 : Int32)), vI (1 : Int32), vL m1, vS, vI oa1, vI oc1, vI ob1]) rfl (pc' := 213) rfl ?_
  refine own_lload X4 hx (hb hby d9_213) rfl (pc' := 215) rfl ?_
  refine own_bipush X4 hx (hb hby d9_215) (z := (32 : Int32)) (by decide) (pc' := 217) rfl ?_
  refine own_lshl X4 hx (hb hby d9_217) (pc' := 218) rfl ?_
  refine own_lload X4 hx (hb hby d9_218) rfl (pc' := 220) rfl ?_
  refine own_bipush X4 hx (hb hby d9_220) (z := (32 : Int32)) (by decide) (pc' := 222) rfl ?_
  refine own_lushr X4 hx (hb hby d9_222) (pc' := 223) rfl ?_
  refine own_lor X4 hx (hb hby d9_223) (pc' := 224) rfl ?_
  rw [own_r32]
  refine own_lstore X4 hx (hb hby d9_224) (l' := #[vR ra, vR rb, vI u2, vI u3, vL (own_rot (t1.1 + t1.2.1) (32 : Int32)), vS, vL ((own_rot t1.2.1 (13 : Int32)) ^^^ (t1.1 + t1.2.1)), vS, vL t1.2.2.1, vS, vL (t1.2.2.2 ^^^ m1), vS, vI (u3 - u2), vI ((3 : Int32) + (1 : Int32)), vI (1 : Int32), vL m1, vS, vI oa1, vI oc1, vI ob1]) rfl (pc' := 226) rfl ?_
  refine own_lload X4 hx (hb hby d9_226) rfl (pc' := 228) rfl ?_
  refine own_lload X4 hx (hb hby d9_228) rfl (pc' := 230) rfl ?_
  refine own_ladd X4 hx (hb hby d9_230) (pc' := 231) rfl ?_
  refine own_lstore X4 hx (hb hby d9_231) (l' := #[vR ra, vR rb, vI u2, vI u3, vL (own_rot (t1.1 + t1.2.1) (32 : Int32)), vS, vL ((own_rot t1.2.1 (13 : Int32)) ^^^ (t1.1 + t1.2.1)), vS, vL (t1.2.2.1 + (t1.2.2.2 ^^^ m1)), vS, vL (t1.2.2.2 ^^^ m1), vS, vI (u3 - u2), vI ((3 : Int32) + (1 : Int32)), vI (1 : Int32), vL m1, vS, vI oa1, vI oc1, vI ob1]) rfl (pc' := 233) rfl ?_
  refine own_lload X4 hx (hb hby d9_233) rfl (pc' := 235) rfl ?_
  refine own_bipush X4 hx (hb hby d9_235) (z := (16 : Int32)) (by decide) (pc' := 237) rfl ?_
  refine own_lshl X4 hx (hb hby d9_237) (pc' := 238) rfl ?_
  refine own_lload X4 hx (hb hby d9_238) rfl (pc' := 240) rfl ?_
  refine own_bipush X4 hx (hb hby d9_240) (z := (48 : Int32)) (by decide) (pc' := 242) rfl ?_
  refine own_lushr X4 hx (hb hby d9_242) (pc' := 243) rfl ?_
  refine own_lor X4 hx (hb hby d9_243) (pc' := 244) rfl ?_
  rw [own_r16]
  refine own_lstore X4 hx (hb hby d9_244) (l' := #[vR ra, vR rb, vI u2, vI u3, vL (own_rot (t1.1 + t1.2.1) (32 : Int32)), vS, vL ((own_rot t1.2.1 (13 : Int32)) ^^^ (t1.1 + t1.2.1)), vS, vL (t1.2.2.1 + (t1.2.2.2 ^^^ m1)), vS, vL (own_rot (t1.2.2.2 ^^^ m1) (16 : Int32)), vS, vI (u3 - u2), vI ((3 : Int32) + (1 : Int32)), vI (1 : Int32), vL m1, vS, vI oa1, vI oc1, vI ob1]) rfl (pc' := 246) rfl ?_
  refine own_lload X4 hx (hb hby d9_246) rfl (pc' := 248) rfl ?_
  refine own_lload X4 hx (hb hby d9_248) rfl (pc' := 250) rfl ?_
  refine own_lxor X4 hx (hb hby d9_250) (pc' := 251) rfl ?_
  refine own_lstore X4 hx (hb hby d9_251) (l' := #[vR ra, vR rb, vI u2, vI u3, vL (own_rot (t1.1 + t1.2.1) (32 : Int32)), vS, vL ((own_rot t1.2.1 (13 : Int32)) ^^^ (t1.1 + t1.2.1)), vS, vL (t1.2.2.1 + (t1.2.2.2 ^^^ m1)), vS, vL ((own_rot (t1.2.2.2 ^^^ m1) (16 : Int32)) ^^^ (t1.2.2.1 + (t1.2.2.2 ^^^ m1))), vS, vI (u3 - u2), vI ((3 : Int32) + (1 : Int32)), vI (1 : Int32), vL m1, vS, vI oa1, vI oc1, vI ob1]) rfl (pc' := 253) rfl ?_
  refine own_lload X4 hx (hb hby d9_253) rfl (pc' := 255) rfl ?_
  refine own_lload X4 hx (hb hby d9_255) rfl (pc' := 257) rfl ?_
  refine own_ladd X4 hx (hb hby d9_257) (pc' := 258) rfl ?_
  refine own_lstore X4 hx (hb hby d9_258) (l' := #[vR ra, vR rb, vI u2, vI u3, vL ((own_rot (t1.1 + t1.2.1) (32 : Int32)) + ((own_rot (t1.2.2.2 ^^^ m1) (16 : Int32)) ^^^ (t1.2.2.1 + (t1.2.2.2 ^^^ m1)))), vS, vL ((own_rot t1.2.1 (13 : Int32)) ^^^ (t1.1 + t1.2.1)), vS, vL (t1.2.2.1 + (t1.2.2.2 ^^^ m1)), vS, vL ((own_rot (t1.2.2.2 ^^^ m1) (16 : Int32)) ^^^ (t1.2.2.1 + (t1.2.2.2 ^^^ m1))), vS, vI (u3 - u2), vI ((3 : Int32) + (1 : Int32)), vI (1 : Int32), vL m1, vS, vI oa1, vI oc1, vI ob1]) rfl (pc' := 260) rfl ?_
  refine own_lload X4 hx (hb hby d9_260) rfl (pc' := 262) rfl ?_
  refine own_bipush X4 hx (hb hby d9_262) (z := (21 : Int32)) (by decide) (pc' := 264) rfl ?_
  refine own_lshl X4 hx (hb hby d9_264) (pc' := 265) rfl ?_
  refine own_lload X4 hx (hb hby d9_265) rfl (pc' := 267) rfl ?_
  refine own_bipush X4 hx (hb hby d9_267) (z := (43 : Int32)) (by decide) (pc' := 269) rfl ?_
  refine own_lushr X4 hx (hb hby d9_269) (pc' := 270) rfl ?_
  refine own_lor X4 hx (hb hby d9_270) (pc' := 271) rfl ?_
  rw [own_r21]
  refine own_lstore X4 hx (hb hby d9_271) (l' := #[vR ra, vR rb, vI u2, vI u3, vL ((own_rot (t1.1 + t1.2.1) (32 : Int32)) + ((own_rot (t1.2.2.2 ^^^ m1) (16 : Int32)) ^^^ (t1.2.2.1 + (t1.2.2.2 ^^^ m1)))), vS, vL ((own_rot t1.2.1 (13 : Int32)) ^^^ (t1.1 + t1.2.1)), vS, vL (t1.2.2.1 + (t1.2.2.2 ^^^ m1)), vS, vL (own_rot ((own_rot (t1.2.2.2 ^^^ m1) (16 : Int32)) ^^^ (t1.2.2.1 + (t1.2.2.2 ^^^ m1))) (21 : Int32)), vS, vI (u3 - u2), vI ((3 : Int32) + (1 : Int32)), vI (1 : Int32), vL m1, vS, vI oa1, vI oc1, vI ob1]) rfl (pc' := 273) rfl ?_
  refine own_lload X4 hx (hb hby d9_273) rfl (pc' := 275) rfl ?_
  refine own_lload X4 hx (hb hby d9_275) rfl (pc' := 277) rfl ?_
  refine own_lxor X4 hx (hb hby d9_277) (pc' := 278) rfl ?_
  refine own_lstore X4 hx (hb hby d9_278) (l' := #[vR ra, vR rb, vI u2, vI u3, vL ((own_rot (t1.1 + t1.2.1) (32 : Int32)) + ((own_rot (t1.2.2.2 ^^^ m1) (16 : Int32)) ^^^ (t1.2.2.1 + (t1.2.2.2 ^^^ m1)))), vS, vL ((own_rot t1.2.1 (13 : Int32)) ^^^ (t1.1 + t1.2.1)), vS, vL (t1.2.2.1 + (t1.2.2.2 ^^^ m1)), vS, vL ((own_rot ((own_rot (t1.2.2.2 ^^^ m1) (16 : Int32)) ^^^ (t1.2.2.1 + (t1.2.2.2 ^^^ m1))) (21 : Int32)) ^^^ ((own_rot (t1.1 + t1.2.1) (32 : Int32)) + ((own_rot (t1.2.2.2 ^^^ m1) (16 : Int32)) ^^^ (t1.2.2.1 + (t1.2.2.2 ^^^ m1))))), vS, vI (u3 - u2), vI ((3 : Int32) + (1 : Int32)), vI (1 : Int32), vL m1, vS, vI oa1, vI oc1, vI ob1]) rfl (pc' := 280) rfl ?_
  refine own_lload X4 hx (hb hby d9_280) rfl (pc' := 282) rfl ?_
  refine own_lload X4 hx (hb hby d9_282) rfl (pc' := 284) rfl ?_
  refine own_ladd X4 hx (hb hby d9_284) (pc' := 285) rfl ?_
  refine own_lstore X4 hx (hb hby d9_285) (l' := #[vR ra, vR rb, vI u2, vI u3, vL ((own_rot (t1.1 + t1.2.1) (32 : Int32)) + ((own_rot (t1.2.2.2 ^^^ m1) (16 : Int32)) ^^^ (t1.2.2.1 + (t1.2.2.2 ^^^ m1)))), vS, vL ((own_rot t1.2.1 (13 : Int32)) ^^^ (t1.1 + t1.2.1)), vS, vL ((t1.2.2.1 + (t1.2.2.2 ^^^ m1)) + ((own_rot t1.2.1 (13 : Int32)) ^^^ (t1.1 + t1.2.1))), vS, vL ((own_rot ((own_rot (t1.2.2.2 ^^^ m1) (16 : Int32)) ^^^ (t1.2.2.1 + (t1.2.2.2 ^^^ m1))) (21 : Int32)) ^^^ ((own_rot (t1.1 + t1.2.1) (32 : Int32)) + ((own_rot (t1.2.2.2 ^^^ m1) (16 : Int32)) ^^^ (t1.2.2.1 + (t1.2.2.2 ^^^ m1))))), vS, vI (u3 - u2), vI ((3 : Int32) + (1 : Int32)), vI (1 : Int32), vL m1, vS, vI oa1, vI oc1, vI ob1]) rfl (pc' := 287) rfl ?_
  refine own_lload X4 hx (hb hby d9_287) rfl (pc' := 289) rfl ?_
  refine own_bipush X4 hx (hb hby d9_289) (z := (17 : Int32)) (by decide) (pc' := 291) rfl ?_
  refine own_lshl X4 hx (hb hby d9_291) (pc' := 292) rfl ?_
  refine own_lload X4 hx (hb hby d9_292) rfl (pc' := 294) rfl ?_
  refine own_bipush X4 hx (hb hby d9_294) (z := (47 : Int32)) (by decide) (pc' := 296) rfl ?_
  refine own_lushr X4 hx (hb hby d9_296) (pc' := 297) rfl ?_
  refine own_lor X4 hx (hb hby d9_297) (pc' := 298) rfl ?_
  rw [own_r17]
  refine own_lstore X4 hx (hb hby d9_298) (l' := #[vR ra, vR rb, vI u2, vI u3, vL ((own_rot (t1.1 + t1.2.1) (32 : Int32)) + ((own_rot (t1.2.2.2 ^^^ m1) (16 : Int32)) ^^^ (t1.2.2.1 + (t1.2.2.2 ^^^ m1)))), vS, vL (own_rot ((own_rot t1.2.1 (13 : Int32)) ^^^ (t1.1 + t1.2.1)) (17 : Int32)), vS, vL ((t1.2.2.1 + (t1.2.2.2 ^^^ m1)) + ((own_rot t1.2.1 (13 : Int32)) ^^^ (t1.1 + t1.2.1))), vS, vL ((own_rot ((own_rot (t1.2.2.2 ^^^ m1) (16 : Int32)) ^^^ (t1.2.2.1 + (t1.2.2.2 ^^^ m1))) (21 : Int32)) ^^^ ((own_rot (t1.1 + t1.2.1) (32 : Int32)) + ((own_rot (t1.2.2.2 ^^^ m1) (16 : Int32)) ^^^ (t1.2.2.1 + (t1.2.2.2 ^^^ m1))))), vS, vI (u3 - u2), vI ((3 : Int32) + (1 : Int32)), vI (1 : Int32), vL m1, vS, vI oa1, vI oc1, vI ob1]) rfl (pc' := 300) rfl ?_
  refine own_lload X4 hx (hb hby d9_300) rfl (pc' := 302) rfl ?_
  refine own_lload X4 hx (hb hby d9_302) rfl (pc' := 304) rfl ?_
  refine own_lxor X4 hx (hb hby d9_304) (pc' := 305) rfl ?_
  refine own_lstore X4 hx (hb hby d9_305) (l' := #[vR ra, vR rb, vI u2, vI u3, vL ((own_rot (t1.1 + t1.2.1) (32 : Int32)) + ((own_rot (t1.2.2.2 ^^^ m1) (16 : Int32)) ^^^ (t1.2.2.1 + (t1.2.2.2 ^^^ m1)))), vS, vL ((own_rot ((own_rot t1.2.1 (13 : Int32)) ^^^ (t1.1 + t1.2.1)) (17 : Int32)) ^^^ ((t1.2.2.1 + (t1.2.2.2 ^^^ m1)) + ((own_rot t1.2.1 (13 : Int32)) ^^^ (t1.1 + t1.2.1)))), vS, vL ((t1.2.2.1 + (t1.2.2.2 ^^^ m1)) + ((own_rot t1.2.1 (13 : Int32)) ^^^ (t1.1 + t1.2.1))), vS, vL ((own_rot ((own_rot (t1.2.2.2 ^^^ m1) (16 : Int32)) ^^^ (t1.2.2.1 + (t1.2.2.2 ^^^ m1))) (21 : Int32)) ^^^ ((own_rot (t1.1 + t1.2.1) (32 : Int32)) + ((own_rot (t1.2.2.2 ^^^ m1) (16 : Int32)) ^^^ (t1.2.2.1 + (t1.2.2.2 ^^^ m1))))), vS, vI (u3 - u2), vI ((3 : Int32) + (1 : Int32)), vI (1 : Int32), vL m1, vS, vI oa1, vI oc1, vI ob1]) rfl (pc' := 307) rfl ?_
  refine own_lload X4 hx (hb hby d9_307) rfl (pc' := 309) rfl ?_
  refine own_bipush X4 hx (hb hby d9_309) (z := (32 : Int32)) (by decide) (pc' := 311) rfl ?_
  refine own_lshl X4 hx (hb hby d9_311) (pc' := 312) rfl ?_
  refine own_lload X4 hx (hb hby d9_312) rfl (pc' := 314) rfl ?_
  refine own_bipush X4 hx (hb hby d9_314) (z := (32 : Int32)) (by decide) (pc' := 316) rfl ?_
  refine own_lushr X4 hx (hb hby d9_316) (pc' := 317) rfl ?_
  refine own_lor X4 hx (hb hby d9_317) (pc' := 318) rfl ?_
  rw [own_r32]
  refine own_lstore X4 hx (hb hby d9_318) (l' := #[vR ra, vR rb, vI u2, vI u3, vL ((own_rot (t1.1 + t1.2.1) (32 : Int32)) + ((own_rot (t1.2.2.2 ^^^ m1) (16 : Int32)) ^^^ (t1.2.2.1 + (t1.2.2.2 ^^^ m1)))), vS, vL ((own_rot ((own_rot t1.2.1 (13 : Int32)) ^^^ (t1.1 + t1.2.1)) (17 : Int32)) ^^^ ((t1.2.2.1 + (t1.2.2.2 ^^^ m1)) + ((own_rot t1.2.1 (13 : Int32)) ^^^ (t1.1 + t1.2.1)))), vS, vL (own_rot ((t1.2.2.1 + (t1.2.2.2 ^^^ m1)) + ((own_rot t1.2.1 (13 : Int32)) ^^^ (t1.1 + t1.2.1))) (32 : Int32)), vS, vL ((own_rot ((own_rot (t1.2.2.2 ^^^ m1) (16 : Int32)) ^^^ (t1.2.2.1 + (t1.2.2.2 ^^^ m1))) (21 : Int32)) ^^^ ((own_rot (t1.1 + t1.2.1) (32 : Int32)) + ((own_rot (t1.2.2.2 ^^^ m1) (16 : Int32)) ^^^ (t1.2.2.1 + (t1.2.2.2 ^^^ m1))))), vS, vI (u3 - u2), vI ((3 : Int32) + (1 : Int32)), vI (1 : Int32), vL m1, vS, vI oa1, vI oc1, vI ob1]) rfl (pc' := 320) rfl ?_
  refine own_lload X4 hx (hb hby d9_320) rfl (pc' := 322) rfl ?_
  refine own_lload X4 hx (hb hby d9_322) rfl (pc' := 324) rfl ?_
  refine own_lxor X4 hx (hb hby d9_324) (pc' := 325) rfl ?_
  refine own_lstore X4 hx (hb hby d9_325) (l' := #[vR ra, vR rb, vI u2, vI u3, vL (((own_rot (t1.1 + t1.2.1) (32 : Int32)) + ((own_rot (t1.2.2.2 ^^^ m1) (16 : Int32)) ^^^ (t1.2.2.1 + (t1.2.2.2 ^^^ m1)))) ^^^ m1), vS, vL ((own_rot ((own_rot t1.2.1 (13 : Int32)) ^^^ (t1.1 + t1.2.1)) (17 : Int32)) ^^^ ((t1.2.2.1 + (t1.2.2.2 ^^^ m1)) + ((own_rot t1.2.1 (13 : Int32)) ^^^ (t1.1 + t1.2.1)))), vS, vL (own_rot ((t1.2.2.1 + (t1.2.2.2 ^^^ m1)) + ((own_rot t1.2.1 (13 : Int32)) ^^^ (t1.1 + t1.2.1))) (32 : Int32)), vS, vL ((own_rot ((own_rot (t1.2.2.2 ^^^ m1) (16 : Int32)) ^^^ (t1.2.2.1 + (t1.2.2.2 ^^^ m1))) (21 : Int32)) ^^^ ((own_rot (t1.1 + t1.2.1) (32 : Int32)) + ((own_rot (t1.2.2.2 ^^^ m1) (16 : Int32)) ^^^ (t1.2.2.1 + (t1.2.2.2 ^^^ m1))))), vS, vI (u3 - u2), vI ((3 : Int32) + (1 : Int32)), vI (1 : Int32), vL m1, vS, vI oa1, vI oc1, vI ob1]) rfl (pc' := 327) rfl ?_
  refine own_iinc X4 hx (hb hby d9_327) rfl (z := (1 : Int32)) rfl (l' := #[vR ra, vR rb, vI u2, vI u3, vL (((own_rot (t1.1 + t1.2.1) (32 : Int32)) + ((own_rot (t1.2.2.2 ^^^ m1) (16 : Int32)) ^^^ (t1.2.2.1 + (t1.2.2.2 ^^^ m1)))) ^^^ m1), vS, vL ((own_rot ((own_rot t1.2.1 (13 : Int32)) ^^^ (t1.1 + t1.2.1)) (17 : Int32)) ^^^ ((t1.2.2.1 + (t1.2.2.2 ^^^ m1)) + ((own_rot t1.2.1 (13 : Int32)) ^^^ (t1.1 + t1.2.1)))), vS, vL (own_rot ((t1.2.2.1 + (t1.2.2.2 ^^^ m1)) + ((own_rot t1.2.1 (13 : Int32)) ^^^ (t1.1 + t1.2.1))) (32 : Int32)), vS, vL ((own_rot ((own_rot (t1.2.2.2 ^^^ m1) (16 : Int32)) ^^^ (t1.2.2.1 + (t1.2.2.2 ^^^ m1))) (21 : Int32)) ^^^ ((own_rot (t1.1 + t1.2.1) (32 : Int32)) + ((own_rot (t1.2.2.2 ^^^ m1) (16 : Int32)) ^^^ (t1.2.2.1 + (t1.2.2.2 ^^^ m1))))), vS, vI (u3 - u2), vI ((3 : Int32) + (1 : Int32)), vI ((1 : Int32) + (1 : Int32)), vL m1, vS, vI oa1, vI oc1, vI ob1]) rfl (pc' := 330) rfl ?_
  refine own_goto X4 hx (hb hby d9_330) (by decide) (pc' := 57) rfl ?_
  show own_G p e below s _ _ _ (T4.setTop (mkF m 57 #[vR ra, vR rb, vI u2, vI u3, vL ((own_comp m1 t1).1), vS, vL ((own_comp m1 t1).2.1), vS, vL ((own_comp m1 t1).2.2.1), vS, vL ((own_comp m1 t1).2.2.2), vS, vI (u3 - u2), vI ((3 : Int32) + (1 : Int32)), vI (2 : Int32), vL m1, vS, vI oa1, vI oc1, vI ob1] []))
  generalize ht2 : (own_comp m1 t1) = t2
  refine own_iload X4 hx (hb hby d9_57) rfl (pc' := 59) rfl ?_
  refine own_iload X4 hx (hb hby d9_59) rfl (pc' := 61) rfl ?_
  refine own_iconst X4 hx (hb hby d9_61) (z := (3 : Int32)) rfl (pc' := 62) rfl ?_
  refine own_iadd X4 hx (hb hby d9_62) (pc' := 63) rfl ?_
  refine own_icmpF X4 hx (hb hby d9_63) (by decide) (pc' := 66) rfl ?_
  refine own_lconst X4 hx (hb hby d9_66) (z := (0 : Int64)) (by decide) (pc' := 67) rfl ?_
  refine own_lstore X4 hx (hb hby d9_67) (l' := #[vR ra, vR rb, vI u2, vI u3, vL t2.1, vS, vL t2.2.1, vS, vL t2.2.2.1, vS, vL t2.2.2.2, vS, vI (u3 - u2), vI ((3 : Int32) + (1 : Int32)), vI (2 : Int32), vL (0 : Int64), vS, vI oa1, vI oc1, vI ob1]) rfl (pc' := 69) rfl ?_
  refine own_iload X4 hx (hb hby d9_69) rfl (pc' := 71) rfl ?_
  refine own_iload X4 hx (hb hby d9_71) rfl (pc' := 73) rfl ?_
  refine own_icmpF X4 hx (hb hby d9_73) (by decide) (pc' := 76) rfl ?_
  refine own_iloadN X4 hx (hb hby d9_76) rfl (pc' := 77) rfl ?_
  refine own_iload X4 hx (hb hby d9_77) rfl (pc' := 79) rfl ?_
  refine own_bipush X4 hx (hb hby d9_79) (z := (8 : Int32)) (by decide) (pc' := 81) rfl ?_
  refine own_imul X4 hx (hb hby d9_81) (pc' := 82) rfl ?_
  refine own_iadd X4 hx (hb hby d9_82) (pc' := 83) rfl ?_
  refine own_istore X4 hx (hb hby d9_83) (l' := #[vR ra, vR rb, vI u2, vI u3, vL t2.1, vS, vL t2.2.1, vS, vL t2.2.2.1, vS, vL t2.2.2.2, vS, vI (u3 - u2), vI ((3 : Int32) + (1 : Int32)), vI (2 : Int32), vL (0 : Int64), vS, vI (u2 + ((2 : Int32) * (8 : Int32))), vI oc1, vI ob1]) rfl (pc' := 85) rfl ?_
  have ho2 := own_offk u2 (2 : Int32) ⟨hs, by omega⟩ (by decide)
  rw [show ((2 : Int32)).toInt = 2 from by decide] at ho2
  have hd2 := own_sub u3 (u2 + ((2 : Int32) * (8 : Int32))) (by omega)
  have hk2 : ¬ ((u3 - (u2 + ((2 : Int32) * (8 : Int32))))) < (8 : Int32) := by simp only [Int32.lt_iff_toInt_lt, Int32.reduceToInt]; omega
  refine own_iloadN X4 hx (hb hby d9_85) rfl (pc' := 86) rfl ?_
  refine own_iload X4 hx (hb hby d9_86) rfl (pc' := 88) rfl ?_
  refine own_isub X4 hx (hb hby d9_88) (pc' := 89) rfl ?_
  refine own_bipush X4 hx (hb hby d9_89) (z := (8 : Int32)) (by decide) (pc' := 91) rfl ?_
  refine own_icmpT X4 hx (hb hby d9_91) (flt hk2).2.1 (by decide) (pc' := 98) rfl ?_
  refine own_iload X4 hx (hb hby d9_98) rfl (pc' := 100) rfl ?_
  refine own_bipush X4 hx (hb hby d9_100) (z := (8 : Int32)) (by decide) (pc' := 102) rfl ?_
  refine own_iadd X4 hx (hb hby d9_102) (pc' := 103) rfl ?_
  refine own_istore X4 hx (hb hby d9_103) (l' := #[vR ra, vR rb, vI u2, vI u3, vL t2.1, vS, vL t2.2.1, vS, vL t2.2.2.1, vS, vL t2.2.2.2, vS, vI (u3 - u2), vI ((3 : Int32) + (1 : Int32)), vI (2 : Int32), vL (0 : Int64), vS, vI (u2 + ((2 : Int32) * (8 : Int32))), vI ((u2 + ((2 : Int32) * (8 : Int32))) + (8 : Int32)), vI ob1]) rfl (pc' := 105) rfl ?_
  refine own_iload X4 hx (hb hby d9_105) rfl (pc' := 107) rfl ?_
  refine own_iconst X4 hx (hb hby d9_107) (z := (1 : Int32)) rfl (pc' := 108) rfl ?_
  refine own_isub X4 hx (hb hby d9_108) (pc' := 109) rfl ?_
  refine own_istore X4 hx (hb hby d9_109) (l' := #[vR ra, vR rb, vI u2, vI u3, vL t2.1, vS, vL t2.2.1, vS, vL t2.2.2.1, vS, vL t2.2.2.2, vS, vI (u3 - u2), vI ((3 : Int32) + (1 : Int32)), vI (2 : Int32), vL (0 : Int64), vS, vI (u2 + ((2 : Int32) * (8 : Int32))), vI ((u2 + ((2 : Int32) * (8 : Int32))) + (8 : Int32)), vI (((u2 + ((2 : Int32) * (8 : Int32))) + (8 : Int32)) - (1 : Int32))]) rfl (pc' := 111) rfl ?_
  have hl2 := own_addk (u2 + ((2 : Int32) * (8 : Int32))) (8 : Int32) (by omega) (by decide)
  simp only [Int32.reduceToInt] at hl2
  have hm2 : (((u2 + ((2 : Int32) * (8 : Int32))) + (8 : Int32))).toInt = ((u2 + ((2 : Int32) * (8 : Int32)))).toInt + (8 : Nat) := by omega
  refine own_inner X4 hx hby hZ e4 ra rb gg P2 u2 u3 (u3 - u2) ((3 : Int32) + (1 : Int32)) (2 : Int32) (u2 + ((2 : Int32) * (8 : Int32))) ((u2 + ((2 : Int32) * (8 : Int32))) + (8 : Int32)) t2.1 t2.2.1 t2.2.2.1 t2.2.2.2 (by omega) 8 (((u2 + ((2 : Int32) * (8 : Int32))) + (8 : Int32)) - (1 : Int32)) 0 (own_j ((u2 + ((2 : Int32) * (8 : Int32))) + (8 : Int32)) (u2 + ((2 : Int32) * (8 : Int32))) 8 hm2 (by omega) (by omega)) (by omega) ?_
  rw [Nat.add_zero, own_Hle gg (u2 + ((2 : Int32) * (8 : Int32))) (8 : Int32) 8 (by omega) rfl]
  refine own_iload X4 hx (hb hby d9_141) rfl (pc' := 143) rfl ?_
  refine own_iload X4 hx (hb hby d9_143) rfl (pc' := 145) rfl ?_
  refine own_iconst X4 hx (hb hby d9_145) (z := (1 : Int32)) rfl (pc' := 146) rfl ?_
  refine own_isub X4 hx (hb hby d9_146) (pc' := 147) rfl ?_
  refine own_icmpT X4 hx (hb hby d9_147) (by decide) (by decide) (pc' := 161) rfl ?_
  refine own_goto X4 hx (hb hby d9_161) (by decide) (pc' := 179) rfl ?_
  generalize hM2 : (own_le8 gg (u2 + ((2 : Int32) * (8 : Int32))) (8 : Int32)) = m2
  generalize ((u2 + ((2 : Int32) * (8 : Int32))) + (-1 : Int32)) = ob2
  generalize ((u2 + ((2 : Int32) * (8 : Int32))) + (8 : Int32)) = oc2
  generalize (u2 + ((2 : Int32) * (8 : Int32))) = oa2
  refine own_lload X4 hx (hb hby d9_179) rfl (pc' := 181) rfl ?_
  refine own_lload X4 hx (hb hby d9_181) rfl (pc' := 183) rfl ?_
  refine own_lxor X4 hx (hb hby d9_183) (pc' := 184) rfl ?_
  refine own_lstore X4 hx (hb hby d9_184) (l' := #[vR ra, vR rb, vI u2, vI u3, vL t2.1, vS, vL t2.2.1, vS, vL t2.2.2.1, vS, vL (t2.2.2.2 ^^^ m2), vS, vI (u3 - u2), vI ((3 : Int32) + (1 : Int32)), vI (2 : Int32), vL m2, vS, vI oa2, vI oc2, vI ob2]) rfl (pc' := 186) rfl ?_
  refine own_lload X4 hx (hb hby d9_186) rfl (pc' := 188) rfl ?_
  refine own_lload X4 hx (hb hby d9_188) rfl (pc' := 190) rfl ?_
  refine own_ladd X4 hx (hb hby d9_190) (pc' := 191) rfl ?_
  refine own_lstore X4 hx (hb hby d9_191) (l' := #[vR ra, vR rb, vI u2, vI u3, vL (t2.1 + t2.2.1), vS, vL t2.2.1, vS, vL t2.2.2.1, vS, vL (t2.2.2.2 ^^^ m2), vS, vI (u3 - u2), vI ((3 : Int32) + (1 : Int32)), vI (2 : Int32), vL m2, vS, vI oa2, vI oc2, vI ob2]) rfl (pc' := 193) rfl ?_
  refine own_lload X4 hx (hb hby d9_193) rfl (pc' := 195) rfl ?_
  refine own_bipush X4 hx (hb hby d9_195) (z := (13 : Int32)) (by decide) (pc' := 197) rfl ?_
  refine own_lshl X4 hx (hb hby d9_197) (pc' := 198) rfl ?_
  refine own_lload X4 hx (hb hby d9_198) rfl (pc' := 200) rfl ?_
  refine own_bipush X4 hx (hb hby d9_200) (z := (51 : Int32)) (by decide) (pc' := 202) rfl ?_
  refine own_lushr X4 hx (hb hby d9_202) (pc' := 203) rfl ?_
  refine own_lor X4 hx (hb hby d9_203) (pc' := 204) rfl ?_
  rw [own_r13]
  refine own_lstore X4 hx (hb hby d9_204) (l' := #[vR ra, vR rb, vI u2, vI u3, vL (t2.1 + t2.2.1), vS, vL (own_rot t2.2.1 (13 : Int32)), vS, vL t2.2.2.1, vS, vL (t2.2.2.2 ^^^ m2), vS, vI (u3 - u2), vI ((3 : Int32) + (1 : Int32)), vI (2 : Int32), vL m2, vS, vI oa2, vI oc2, vI ob2]) rfl (pc' := 206) rfl ?_
  refine own_lload X4 hx (hb hby d9_206) rfl (pc' := 208) rfl ?_
  refine own_lload X4 hx (hb hby d9_208) rfl (pc' := 210) rfl ?_
  refine own_lxor X4 hx (hb hby d9_210) (pc' := 211) rfl ?_
  refine own_lstore X4 hx (hb hby d9_211) (l' := #[vR ra, vR rb, vI u2, vI u3, vL (t2.1 + t2.2.1), vS, vL ((own_rot t2.2.1 (13 : Int32)) ^^^ (t2.1 + t2.2.1)), vS, vL t2.2.2.1, vS, vL (t2.2.2.2 ^^^ m2), vS, vI (u3 - u2), vI ((3 : Int32) + (1 : Int32)), vI (2 : Int32), vL m2, vS, vI oa2, vI oc2, vI ob2]) rfl (pc' := 213) rfl ?_
  refine own_lload X4 hx (hb hby d9_213) rfl (pc' := 215) rfl ?_
  refine own_bipush X4 hx (hb hby d9_215) (z := (32 : Int32)) (by decide) (pc' := 217) rfl ?_
  refine own_lshl X4 hx (hb hby d9_217) (pc' := 218) rfl ?_
  refine own_lload X4 hx (hb hby d9_218) rfl (pc' := 220) rfl ?_
  refine own_bipush X4 hx (hb hby d9_220) (z := (32 : Int32)) (by decide) (pc' := 222) rfl ?_
  refine own_lushr X4 hx (hb hby d9_222) (pc' := 223) rfl ?_
  refine own_lor X4 hx (hb hby d9_223) (pc' := 224) rfl ?_
  rw [own_r32]
  refine own_lstore X4 hx (hb hby d9_224) (l' := #[vR ra, vR rb, vI u2, vI u3, vL (own_rot (t2.1 + t2.2.1) (32 : Int32)), vS, vL ((own_rot t2.2.1 (13 : Int32)) ^^^ (t2.1 + t2.2.1)), vS, vL t2.2.2.1, vS, vL (t2.2.2.2 ^^^ m2), vS, vI (u3 - u2), vI ((3 : Int32) + (1 : Int32)), vI (2 : Int32), vL m2, vS, vI oa2, vI oc2, vI ob2]) rfl (pc' := 226) rfl ?_
  refine own_lload X4 hx (hb hby d9_226) rfl (pc' := 228) rfl ?_
  refine own_lload X4 hx (hb hby d9_228) rfl (pc' := 230) rfl ?_
  refine own_ladd X4 hx (hb hby d9_230) (pc' := 231) rfl ?_
  refine own_lstore X4 hx (hb hby d9_231) (l' := #[vR ra, vR rb, vI u2, vI u3, vL (own_rot (t2.1 + t2.2.1) (32 : Int32)), vS, vL ((own_rot t2.2.1 (13 : Int32)) ^^^ (t2.1 + t2.2.1)), vS, vL (t2.2.2.1 + (t2.2.2.2 ^^^ m2)), vS, vL (t2.2.2.2 ^^^ m2), vS, vI (u3 - u2), vI ((3 : Int32) + (1 : Int32)), vI (2 : Int32), vL m2, vS, vI oa2, vI oc2, vI ob2]) rfl (pc' := 233) rfl ?_
  refine own_lload X4 hx (hb hby d9_233) rfl (pc' := 235) rfl ?_
  refine own_bipush X4 hx (hb hby d9_235) (z := (16 : Int32)) (by decide) (pc' := 237) rfl ?_
  refine own_lshl X4 hx (hb hby d9_237) (pc' := 238) rfl ?_
  refine own_lload X4 hx (hb hby d9_238) rfl (pc' := 240) rfl ?_
  refine own_bipush X4 hx (hb hby d9_240) (z := (48 : Int32)) (by decide) (pc' := 242) rfl ?_
  refine own_lushr X4 hx (hb hby d9_242) (pc' := 243) rfl ?_
  refine own_lor X4 hx (hb hby d9_243) (pc' := 244) rfl ?_
  rw [own_r16]
  refine own_lstore X4 hx (hb hby d9_244) (l' := #[vR ra, vR rb, vI u2, vI u3, vL (own_rot (t2.1 + t2.2.1) (32 : Int32)), vS, vL ((own_rot t2.2.1 (13 : Int32)) ^^^ (t2.1 + t2.2.1)), vS, vL (t2.2.2.1 + (t2.2.2.2 ^^^ m2)), vS, vL (own_rot (t2.2.2.2 ^^^ m2) (16 : Int32)), vS, vI (u3 - u2), vI ((3 : Int32) + (1 : Int32)), vI (2 : Int32), vL m2, vS, vI oa2, vI oc2, vI ob2]) rfl (pc' := 246) rfl ?_
  refine own_lload X4 hx (hb hby d9_246) rfl (pc' := 248) rfl ?_
  refine own_lload X4 hx (hb hby d9_248) rfl (pc' := 250) rfl ?_
  refine own_lxor X4 hx (hb hby d9_250) (pc' := 251) rfl ?_
  refine own_lstore X4 hx (hb hby d9_251) (l' := #[vR ra, vR rb, vI u2, vI u3, vL (own_rot (t2.1 + t2.2.1) (32 : Int32)), vS, vL ((own_rot t2.2.1 (13 : Int32)) ^^^ (t2.1 + t2.2.1)), vS, vL (t2.2.2.1 + (t2.2.2.2 ^^^ m2)), vS, vL ((own_rot (t2.2.2.2 ^^^ m2) (16 : Int32)) ^^^ (t2.2.2.1 + (t2.2.2.2 ^^^ m2))), vS, vI (u3 - u2), vI ((3 : Int32) + (1 : Int32)), vI (2 : Int32), vL m2, vS, vI oa2, vI oc2, vI ob2]) rfl (pc' := 253) rfl ?_
  refine own_lload X4 hx (hb hby d9_253) rfl (pc' := 255) rfl ?_
  refine own_lload X4 hx (hb hby d9_255) rfl (pc' := 257) rfl ?_
  refine own_ladd X4 hx (hb hby d9_257) (pc' := 258) rfl ?_
  refine own_lstore X4 hx (hb hby d9_258) (l' := #[vR ra, vR rb, vI u2, vI u3, vL ((own_rot (t2.1 + t2.2.1) (32 : Int32)) + ((own_rot (t2.2.2.2 ^^^ m2) (16 : Int32)) ^^^ (t2.2.2.1 + (t2.2.2.2 ^^^ m2)))), vS, vL ((own_rot t2.2.1 (13 : Int32)) ^^^ (t2.1 + t2.2.1)), vS, vL (t2.2.2.1 + (t2.2.2.2 ^^^ m2)), vS, vL ((own_rot (t2.2.2.2 ^^^ m2) (16 : Int32)) ^^^ (t2.2.2.1 + (t2.2.2.2 ^^^ m2))), vS, vI (u3 - u2), vI ((3 : Int32) + (1 : Int32)), vI (2 : Int32), vL m2, vS, vI oa2, vI oc2, vI ob2]) rfl (pc' := 260) rfl ?_
  refine own_lload X4 hx (hb hby d9_260) rfl (pc' := 262) rfl ?_
  refine own_bipush X4 hx (hb hby d9_262) (z := (21 : Int32)) (by decide) (pc' := 264) rfl ?_
  refine own_lshl X4 hx (hb hby d9_264) (pc' := 265) rfl ?_
  refine own_lload X4 hx (hb hby d9_265) rfl (pc' := 267) rfl ?_
  refine own_bipush X4 hx (hb hby d9_267) (z := (43 : Int32)) (by decide) (pc' := 269) rfl ?_
  refine own_lushr X4 hx (hb hby d9_269) (pc' := 270) rfl ?_
  refine own_lor X4 hx (hb hby d9_270) (pc' := 271) rfl ?_
  rw [own_r21]
  refine own_lstore X4 hx (hb hby d9_271) (l' := #[vR ra, vR rb, vI u2, vI u3, vL ((own_rot (t2.1 + t2.2.1) (32 : Int32)) + ((own_rot (t2.2.2.2 ^^^ m2) (16 : Int32)) ^^^ (t2.2.2.1 + (t2.2.2.2 ^^^ m2)))), vS, vL ((own_rot t2.2.1 (13 : Int32)) ^^^ (t2.1 + t2.2.1)), vS, vL (t2.2.2.1 + (t2.2.2.2 ^^^ m2)), vS, vL (own_rot ((own_rot (t2.2.2.2 ^^^ m2) (16 : Int32)) ^^^ (t2.2.2.1 + (t2.2.2.2 ^^^ m2))) (21 : Int32)), vS, vI (u3 - u2), vI ((3 : Int32) + (1 : Int32)), vI (2 : Int32), vL m2, vS, vI oa2, vI oc2, vI ob2]) rfl (pc' := 273) rfl ?_
  refine own_lload X4 hx (hb hby d9_273) rfl (pc' := 275) rfl ?_
  refine own_lload X4 hx (hb hby d9_275) rfl (pc' := 277) rfl ?_
  refine own_lxor X4 hx (hb hby d9_277) (pc' := 278) rfl ?_
  refine own_lstore X4 hx (hb hby d9_278) (l' := #[vR ra, vR rb, vI u2, vI u3, vL ((own_rot (t2.1 + t2.2.1) (32 : Int32)) + ((own_rot (t2.2.2.2 ^^^ m2) (16 : Int32)) ^^^ (t2.2.2.1 + (t2.2.2.2 ^^^ m2)))), vS, vL ((own_rot t2.2.1 (13 : Int32)) ^^^ (t2.1 + t2.2.1)), vS, vL (t2.2.2.1 + (t2.2.2.2 ^^^ m2)), vS, vL ((own_rot ((own_rot (t2.2.2.2 ^^^ m2) (16 : Int32)) ^^^ (t2.2.2.1 + (t2.2.2.2 ^^^ m2))) (21 : Int32)) ^^^ ((own_rot (t2.1 + t2.2.1) (32 : Int32)) + ((own_rot (t2.2.2.2 ^^^ m2) (16 : Int32)) ^^^ (t2.2.2.1 + (t2.2.2.2 ^^^ m2))))), vS, vI (u3 - u2), vI ((3 : Int32) + (1 : Int32)), vI (2 : Int32), vL m2, vS, vI oa2, vI oc2, vI ob2]) rfl (pc' := 280) rfl ?_
  refine own_lload X4 hx (hb hby d9_280) rfl (pc' := 282) rfl ?_
  refine own_lload X4 hx (hb hby d9_282) rfl (pc' := 284) rfl ?_
  refine own_ladd X4 hx (hb hby d9_284) (pc' := 285) rfl ?_
  refine own_lstore X4 hx (hb hby d9_285) (l' := #[vR ra, vR rb, vI u2, vI u3, vL ((own_rot (t2.1 + t2.2.1) (32 : Int32)) + ((own_rot (t2.2.2.2 ^^^ m2) (16 : Int32)) ^^^ (t2.2.2.1 + (t2.2.2.2 ^^^ m2)))), vS, vL ((own_rot t2.2.1 (13 : Int32)) ^^^ (t2.1 + t2.2.1)), vS, vL ((t2.2.2.1 + (t2.2.2.2 ^^^ m2)) + ((own_rot t2.2.1 (13 : Int32)) ^^^ (t2.1 + t2.2.1))), vS, vL ((own_rot ((own_rot (t2.2.2.2 ^^^ m2) (16 : Int32)) ^^^ (t2.2.2.1 + (t2.2.2.2 ^^^ m2))) (21 : Int32)) ^^^ ((own_rot (t2.1 + t2.2.1) (32 : Int32)) + ((own_rot (t2.2.2.2 ^^^ m2) (16 : Int32)) ^^^ (t2.2.2.1 + (t2.2.2.2 ^^^ m2))))), vS, vI (u3 - u2), vI ((3 : Int32) + (1 : Int32)), vI (2 : Int32), vL m2, vS, vI oa2, vI oc2, vI ob2]) rfl (pc' := 287) rfl ?_
  refine own_lload X4 hx (hb hby d9_287) rfl (pc' := 289) rfl ?_
  refine own_bipush X4 hx (hb hby d9_289) (z := (17 : Int32)) (by decide) (pc' := 291) rfl ?_
  refine own_lshl X4 hx (hb hby d9_291) (pc' := 292) rfl ?_
  refine own_lload X4 hx (hb hby d9_292) rfl (pc' := 294) rfl ?_
  refine own_bipush X4 hx (hb hby d9_294) (z := (47 : Int32)) (by decide) (pc' := 296) rfl ?_
  refine own_lushr X4 hx (hb hby d9_296) (pc' := 297) rfl ?_
  refine own_lor X4 hx (hb hby d9_297) (pc' := 298) rfl ?_
  rw [own_r17]
  refine own_lstore X4 hx (hb hby d9_298) (l' := #[vR ra, vR rb, vI u2, vI u3, vL ((own_rot (t2.1 + t2.2.1) (32 : Int32)) + ((own_rot (t2.2.2.2 ^^^ m2) (16 : Int32)) ^^^ (t2.2.2.1 + (t2.2.2.2 ^^^ m2)))), vS, vL (own_rot ((own_rot t2.2.1 (13 : Int32)) ^^^ (t2.1 + t2.2.1)) (17 : Int32)), vS, vL ((t2.2.2.1 + (t2.2.2.2 ^^^ m2)) + ((own_rot t2.2.1 (13 : Int32)) ^^^ (t2.1 + t2.2.1))), vS, vL ((own_rot ((own_rot (t2.2.2.2 ^^^ m2) (16 : Int32)) ^^^ (t2.2.2.1 + (t2.2.2.2 ^^^ m2))) (21 : Int32)) ^^^ ((own_rot (t2.1 + t2.2.1) (32 : Int32)) + ((own_rot (t2.2.2.2 ^^^ m2) (16 : Int32)) ^^^ (t2.2.2.1 + (t2.2.2.2 ^^^ m2))))), vS, vI (u3 - u2), vI ((3 : Int32) + (1 : Int32)), vI (2 : Int32), vL m2, vS, vI oa2, vI oc2, vI ob2]) rfl (pc' := 300) rfl ?_
  refine own_lload X4 hx (hb hby d9_300) rfl (pc' := 302) rfl ?_
  refine own_lload X4 hx (hb hby d9_302) rfl (pc' := 304) rfl ?_
  refine own_lxor X4 hx (hb hby d9_304) (pc' := 305) rfl ?_
  refine own_lstore X4 hx (hb hby d9_305) (l' := #[vR ra, vR rb, vI u2, vI u3, vL ((own_rot (t2.1 + t2.2.1) (32 : Int32)) + ((own_rot (t2.2.2.2 ^^^ m2) (16 : Int32)) ^^^ (t2.2.2.1 + (t2.2.2.2 ^^^ m2)))), vS, vL ((own_rot ((own_rot t2.2.1 (13 : Int32)) ^^^ (t2.1 + t2.2.1)) (17 : Int32)) ^^^ ((t2.2.2.1 + (t2.2.2.2 ^^^ m2)) + ((own_rot t2.2.1 (13 : Int32)) ^^^ (t2.1 + t2.2.1)))), vS, vL ((t2.2.2.1 + (t2.2.2.2 ^^^ m2)) + ((own_rot t2.2.1 (13 : Int32)) ^^^ (t2.1 + t2.2.1))), vS, vL ((own_rot ((own_rot (t2.2.2.2 ^^^ m2) (16 : Int32)) ^^^ (t2.2.2.1 + (t2.2.2.2 ^^^ m2))) (21 : Int32)) ^^^ ((own_rot (t2.1 + t2.2.1) (32 : Int32)) + ((own_rot (t2.2.2.2 ^^^ m2) (16 : Int32)) ^^^ (t2.2.2.1 + (t2.2.2.2 ^^^ m2))))), vS, vI (u3 - u2), vI ((3 : Int32) + (1 : Int32)), vI (2 : Int32), vL m2, vS, vI oa2, vI oc2, vI ob2]) rfl (pc' := 307) rfl ?_
  refine own_lload X4 hx (hb hby d9_307) rfl (pc' := 309) rfl ?_
  refine own_bipush X4 hx (hb hby d9_309) (z := (32 : Int32)) (by decide) (pc' := 311) rfl ?_
  refine own_lshl X4 hx (hb hby d9_311) (pc' := 312) rfl ?_
  refine own_lload X4 hx (hb hby d9_312) rfl (pc' := 314) rfl ?_
  refine own_bipush X4 hx (hb hby d9_314) (z := (32 : Int32)) (by decide) (pc' := 316) rfl ?_
  refine own_lushr X4 hx (hb hby d9_316) (pc' := 317) rfl ?_
  refine own_lor X4 hx (hb hby d9_317) (pc' := 318) rfl ?_
  rw [own_r32]
  refine own_lstore X4 hx (hb hby d9_318) (l' := #[vR ra, vR rb, vI u2, vI u3, vL ((own_rot (t2.1 + t2.2.1) (32 : Int32)) + ((own_rot (t2.2.2.2 ^^^ m2) (16 : Int32)) ^^^ (t2.2.2.1 + (t2.2.2.2 ^^^ m2)))), vS, vL ((own_rot ((own_rot t2.2.1 (13 : Int32)) ^^^ (t2.1 + t2.2.1)) (17 : Int32)) ^^^ ((t2.2.2.1 + (t2.2.2.2 ^^^ m2)) + ((own_rot t2.2.1 (13 : Int32)) ^^^ (t2.1 + t2.2.1)))), vS, vL (own_rot ((t2.2.2.1 + (t2.2.2.2 ^^^ m2)) + ((own_rot t2.2.1 (13 : Int32)) ^^^ (t2.1 + t2.2.1))) (32 : Int32)), vS, vL ((own_rot ((own_rot (t2.2.2.2 ^^^ m2) (16 : Int32)) ^^^ (t2.2.2.1 + (t2.2.2.2 ^^^ m2))) (21 : Int32)) ^^^ ((own_rot (t2.1 + t2.2.1) (32 : Int32)) + ((own_rot (t2.2.2.2 ^^^ m2) (16 : Int32)) ^^^ (t2.2.2.1 + (t2.2.2.2 ^^^ m2))))), vS, vI (u3 - u2), vI ((3 : Int32) + (1 : Int32)), vI (2 : Int32), vL m2, vS, vI oa2, vI oc2, vI ob2]) rfl (pc' := 320) rfl ?_
  refine own_lload X4 hx (hb hby d9_320) rfl (pc' := 322) rfl ?_
  refine own_lload X4 hx (hb hby d9_322) rfl (pc' := 324) rfl ?_
  refine own_lxor X4 hx (hb hby d9_324) (pc' := 325) rfl ?_
  refine own_lstore X4 hx (hb hby d9_325) (l' := #[vR ra, vR rb, vI u2, vI u3, vL (((own_rot (t2.1 + t2.2.1) (32 : Int32)) + ((own_rot (t2.2.2.2 ^^^ m2) (16 : Int32)) ^^^ (t2.2.2.1 + (t2.2.2.2 ^^^ m2)))) ^^^ m2), vS, vL ((own_rot ((own_rot t2.2.1 (13 : Int32)) ^^^ (t2.1 + t2.2.1)) (17 : Int32)) ^^^ ((t2.2.2.1 + (t2.2.2.2 ^^^ m2)) + ((own_rot t2.2.1 (13 : Int32)) ^^^ (t2.1 + t2.2.1)))), vS, vL (own_rot ((t2.2.2.1 + (t2.2.2.2 ^^^ m2)) + ((own_rot t2.2.1 (13 : Int32)) ^^^ (t2.1 + t2.2.1))) (32 : Int32)), vS, vL ((own_rot ((own_rot (t2.2.2.2 ^^^ m2) (16 : Int32)) ^^^ (t2.2.2.1 + (t2.2.2.2 ^^^ m2))) (21 : Int32)) ^^^ ((own_rot (t2.1 + t2.2.1) (32 : Int32)) + ((own_rot (t2.2.2.2 ^^^ m2) (16 : Int32)) ^^^ (t2.2.2.1 + (t2.2.2.2 ^^^ m2))))), vS, vI (u3 - u2), vI ((3 : Int32) + (1 : Int32)), vI (2 : Int32), vL m2, vS, vI oa2, vI oc2, vI ob2]) rfl (pc' := 327) rfl ?_
  refine own_iinc X4 hx (hb hby d9_327) rfl (z := (1 : Int32)) rfl (l' := #[vR ra, vR rb, vI u2, vI u3, vL (((own_rot (t2.1 + t2.2.1) (32 : Int32)) + ((own_rot (t2.2.2.2 ^^^ m2) (16 : Int32)) ^^^ (t2.2.2.1 + (t2.2.2.2 ^^^ m2)))) ^^^ m2), vS, vL ((own_rot ((own_rot t2.2.1 (13 : Int32)) ^^^ (t2.1 + t2.2.1)) (17 : Int32)) ^^^ ((t2.2.2.1 + (t2.2.2.2 ^^^ m2)) + ((own_rot t2.2.1 (13 : Int32)) ^^^ (t2.1 + t2.2.1)))), vS, vL (own_rot ((t2.2.2.1 + (t2.2.2.2 ^^^ m2)) + ((own_rot t2.2.1 (13 : Int32)) ^^^ (t2.1 + t2.2.1))) (32 : Int32)), vS, vL ((own_rot ((own_rot (t2.2.2.2 ^^^ m2) (16 : Int32)) ^^^ (t2.2.2.1 + (t2.2.2.2 ^^^ m2))) (21 : Int32)) ^^^ ((own_rot (t2.1 + t2.2.1) (32 : Int32)) + ((own_rot (t2.2.2.2 ^^^ m2) (16 : Int32)) ^^^ (t2.2.2.1 + (t2.2.2.2 ^^^ m2))))), vS, vI (u3 - u2), vI ((3 : Int32) + (1 : Int32)), vI ((2 : Int32) + (1 : Int32)), vL m2, vS, vI oa2, vI oc2, vI ob2]) rfl (pc' := 330) rfl ?_
  refine own_goto X4 hx (hb hby d9_330) (by decide) (pc' := 57) rfl ?_
  show own_G p e below s _ _ _ (T4.setTop (mkF m 57 #[vR ra, vR rb, vI u2, vI u3, vL ((own_comp m2 t2).1), vS, vL ((own_comp m2 t2).2.1), vS, vL ((own_comp m2 t2).2.2.1), vS, vL ((own_comp m2 t2).2.2.2), vS, vI (u3 - u2), vI ((3 : Int32) + (1 : Int32)), vI (3 : Int32), vL m2, vS, vI oa2, vI oc2, vI ob2] []))
  generalize ht3 : (own_comp m2 t2) = t3
  refine own_iload X4 hx (hb hby d9_57) rfl (pc' := 59) rfl ?_
  refine own_iload X4 hx (hb hby d9_59) rfl (pc' := 61) rfl ?_
  refine own_iconst X4 hx (hb hby d9_61) (z := (3 : Int32)) rfl (pc' := 62) rfl ?_
  refine own_iadd X4 hx (hb hby d9_62) (pc' := 63) rfl ?_
  refine own_icmpF X4 hx (hb hby d9_63) (by decide) (pc' := 66) rfl ?_
  refine own_lconst X4 hx (hb hby d9_66) (z := (0 : Int64)) (by decide) (pc' := 67) rfl ?_
  refine own_lstore X4 hx (hb hby d9_67) (l' := #[vR ra, vR rb, vI u2, vI u3, vL t3.1, vS, vL t3.2.1, vS, vL t3.2.2.1, vS, vL t3.2.2.2, vS, vI (u3 - u2), vI ((3 : Int32) + (1 : Int32)), vI (3 : Int32), vL (0 : Int64), vS, vI oa2, vI oc2, vI ob2]) rfl (pc' := 69) rfl ?_
  refine own_iload X4 hx (hb hby d9_69) rfl (pc' := 71) rfl ?_
  refine own_iload X4 hx (hb hby d9_71) rfl (pc' := 73) rfl ?_
  refine own_icmpF X4 hx (hb hby d9_73) (by decide) (pc' := 76) rfl ?_
  refine own_iloadN X4 hx (hb hby d9_76) rfl (pc' := 77) rfl ?_
  refine own_iload X4 hx (hb hby d9_77) rfl (pc' := 79) rfl ?_
  refine own_bipush X4 hx (hb hby d9_79) (z := (8 : Int32)) (by decide) (pc' := 81) rfl ?_
  refine own_imul X4 hx (hb hby d9_81) (pc' := 82) rfl ?_
  refine own_iadd X4 hx (hb hby d9_82) (pc' := 83) rfl ?_
  refine own_istore X4 hx (hb hby d9_83) (l' := #[vR ra, vR rb, vI u2, vI u3, vL t3.1, vS, vL t3.2.1, vS, vL t3.2.2.1, vS, vL t3.2.2.2, vS, vI (u3 - u2), vI ((3 : Int32) + (1 : Int32)), vI (3 : Int32), vL (0 : Int64), vS, vI (u2 + ((3 : Int32) * (8 : Int32))), vI oc2, vI ob2]) rfl (pc' := 85) rfl ?_
  have ho3 := own_offk u2 (3 : Int32) ⟨hs, by omega⟩ (by decide)
  rw [show ((3 : Int32)).toInt = 3 from by decide] at ho3
  have hd3 := own_sub u3 (u2 + ((3 : Int32) * (8 : Int32))) (by omega)
  have hk3 : (u3 - (u2 + ((3 : Int32) * (8 : Int32)))) < (8 : Int32) := by simp only [Int32.lt_iff_toInt_lt, Int32.reduceToInt]; omega
  refine own_iloadN X4 hx (hb hby d9_85) rfl (pc' := 86) rfl ?_
  refine own_iload X4 hx (hb hby d9_86) rfl (pc' := 88) rfl ?_
  refine own_isub X4 hx (hb hby d9_88) (pc' := 89) rfl ?_
  refine own_bipush X4 hx (hb hby d9_89) (z := (8 : Int32)) (by decide) (pc' := 91) rfl ?_
  refine own_icmpF X4 hx (hb hby d9_91) (tlt hk3).2.1 (pc' := 94) rfl ?_
  refine own_iloadN X4 hx (hb hby d9_94) rfl (pc' := 95) rfl ?_
  refine own_goto X4 hx (hb hby d9_95) (by decide) (pc' := 103) rfl ?_
  refine own_istore X4 hx (hb hby d9_103) (l' := #[vR ra, vR rb, vI u2, vI u3, vL t3.1, vS, vL t3.2.1, vS, vL t3.2.2.1, vS, vL t3.2.2.2, vS, vI (u3 - u2), vI ((3 : Int32) + (1 : Int32)), vI (3 : Int32), vL (0 : Int64), vS, vI (u2 + ((3 : Int32) * (8 : Int32))), vI u3, vI ob2]) rfl (pc' := 105) rfl ?_
  refine own_iload X4 hx (hb hby d9_105) rfl (pc' := 107) rfl ?_
  refine own_iconst X4 hx (hb hby d9_107) (z := (1 : Int32)) rfl (pc' := 108) rfl ?_
  refine own_isub X4 hx (hb hby d9_108) (pc' := 109) rfl ?_
  refine own_istore X4 hx (hb hby d9_109) (l' := #[vR ra, vR rb, vI u2, vI u3, vL t3.1, vS, vL t3.2.1, vS, vL t3.2.2.1, vS, vL t3.2.2.2, vS, vI (u3 - u2), vI ((3 : Int32) + (1 : Int32)), vI (3 : Int32), vL (0 : Int64), vS, vI (u2 + ((3 : Int32) * (8 : Int32))), vI u3, vI (u3 - (1 : Int32))]) rfl (pc' := 111) rfl ?_
  have hm3 : (u3).toInt = ((u2 + ((3 : Int32) * (8 : Int32)))).toInt + ((u3.toInt - ((u2 + ((3 : Int32) * (8 : Int32)))).toInt).toNat : Nat) := by omega
  refine own_inner X4 hx hby hZ e4 ra rb gg P2 u2 u3 (u3 - u2) ((3 : Int32) + (1 : Int32)) (3 : Int32) (u2 + ((3 : Int32) * (8 : Int32))) u3 t3.1 t3.2.1 t3.2.2.1 t3.2.2.2 (by omega) (u3.toInt - ((u2 + ((3 : Int32) * (8 : Int32)))).toInt).toNat (u3 - (1 : Int32)) 0 (own_j u3 (u2 + ((3 : Int32) * (8 : Int32))) (u3.toInt - ((u2 + ((3 : Int32) * (8 : Int32)))).toInt).toNat hm3 (by omega) (by omega)) (by omega) ?_
  rw [Nat.add_zero, own_Hle gg (u2 + ((3 : Int32) * (8 : Int32))) (u3 - (u2 + ((3 : Int32) * (8 : Int32)))) (u3.toInt - ((u2 + ((3 : Int32) * (8 : Int32)))).toInt).toNat (by omega) (by omega)]
  refine own_iload X4 hx (hb hby d9_141) rfl (pc' := 143) rfl ?_
  refine own_iload X4 hx (hb hby d9_143) rfl (pc' := 145) rfl ?_
  refine own_iconst X4 hx (hb hby d9_145) (z := (1 : Int32)) rfl (pc' := 146) rfl ?_
  refine own_isub X4 hx (hb hby d9_146) (pc' := 147) rfl ?_
  refine own_icmpF X4 hx (hb hby d9_147) (by decide) (pc' := 150) rfl ?_
  refine own_lload X4 hx (hb hby d9_150) rfl (pc' := 152) rfl ?_
  refine own_iload X4 hx (hb hby d9_152) rfl (pc' := 154) rfl ?_
  refine own_i2l X4 hx (hb hby d9_154) (pc' := 155) rfl ?_
  refine own_bipush X4 hx (hb hby d9_155) (z := (56 : Int32)) (by decide) (pc' := 157) rfl ?_
  refine own_lshl X4 hx (hb hby d9_157) (pc' := 158) rfl ?_
  refine own_lor X4 hx (hb hby d9_158) (pc' := 159) rfl ?_
  refine own_lstore X4 hx (hb hby d9_159) (l' := #[vR ra, vR rb, vI u2, vI u3, vL t3.1, vS, vL t3.2.1, vS, vL t3.2.2.1, vS, vL t3.2.2.2, vS, vI (u3 - u2), vI ((3 : Int32) + (1 : Int32)), vI (3 : Int32), vL ((own_le8 gg (u2 + ((3 : Int32) * (8 : Int32))) (u3 - (u2 + ((3 : Int32) * (8 : Int32))))) ||| (((u3 - u2).toInt64) <<< ((56 : Int32) &&& 0x3f).toInt64)), vS, vI (u2 + ((3 : Int32) * (8 : Int32))), vI u3, vI ((u2 + ((3 : Int32) * (8 : Int32))) + (-1 : Int32))]) rfl (pc' := 161) rfl ?_
  refine own_goto X4 hx (hb hby d9_161) (by decide) (pc' := 179) rfl ?_
  generalize hM3 : ((own_le8 gg (u2 + ((3 : Int32) * (8 : Int32))) (u3 - (u2 + ((3 : Int32) * (8 : Int32))))) ||| (((u3 - u2).toInt64) <<< ((56 : Int32) &&& 0x3f).toInt64)) = m3
  generalize ((u2 + ((3 : Int32) * (8 : Int32))) + (-1 : Int32)) = ob3
  generalize (u2 + ((3 : Int32) * (8 : Int32))) = oa3
  refine own_lload X4 hx (hb hby d9_179) rfl (pc' := 181) rfl ?_
  refine own_lload X4 hx (hb hby d9_181) rfl (pc' := 183) rfl ?_
  refine own_lxor X4 hx (hb hby d9_183) (pc' := 184) rfl ?_
  refine own_lstore X4 hx (hb hby d9_184) (l' := #[vR ra, vR rb, vI u2, vI u3, vL t3.1, vS, vL t3.2.1, vS, vL t3.2.2.1, vS, vL (t3.2.2.2 ^^^ m3), vS, vI (u3 - u2), vI ((3 : Int32) + (1 : Int32)), vI (3 : Int32), vL m3, vS, vI oa3, vI u3, vI ob3]) rfl (pc' := 186) rfl ?_
  refine own_lload X4 hx (hb hby d9_186) rfl (pc' := 188) rfl ?_
  refine own_lload X4 hx (hb hby d9_188) rfl (pc' := 190) rfl ?_
  refine own_ladd X4 hx (hb hby d9_190) (pc' := 191) rfl ?_
  refine own_lstore X4 hx (hb hby d9_191) (l' := #[vR ra, vR rb, vI u2, vI u3, vL (t3.1 + t3.2.1), vS, vL t3.2.1, vS, vL t3.2.2.1, vS, vL (t3.2.2.2 ^^^ m3), vS, vI (u3 - u2), vI ((3 : Int32) + (1 : Int32)), vI (3 : Int32), vL m3, vS, vI oa3, vI u3, vI ob3]) rfl (pc' := 193) rfl ?_
  refine own_lload X4 hx (hb hby d9_193) rfl (pc' := 195) rfl ?_
  refine own_bipush X4 hx (hb hby d9_195) (z := (13 : Int32)) (by decide) (pc' := 197) rfl ?_
  refine own_lshl X4 hx (hb hby d9_197) (pc' := 198) rfl ?_
  refine own_lload X4 hx (hb hby d9_198) rfl (pc' := 200) rfl ?_
  refine own_bipush X4 hx (hb hby d9_200) (z := (51 : Int32)) (by decide) (pc' := 202) rfl ?_
  refine own_lushr X4 hx (hb hby d9_202) (pc' := 203) rfl ?_
  refine own_lor X4 hx (hb hby d9_203) (pc' := 204) rfl ?_
  rw [own_r13]
  refine own_lstore X4 hx (hb hby d9_204) (l' := #[vR ra, vR rb, vI u2, vI u3, vL (t3.1 + t3.2.1), vS, vL (own_rot t3.2.1 (13 : Int32)), vS, vL t3.2.2.1, vS, vL (t3.2.2.2 ^^^ m3), vS, vI (u3 - u2), vI ((3 : Int32) + (1 : Int32)), vI (3 : Int32), vL m3, vS, vI oa3, vI u3, vI ob3]) rfl (pc' := 206) rfl ?_
  refine own_lload X4 hx (hb hby d9_206) rfl (pc' := 208) rfl ?_
  refine own_lload X4 hx (hb hby d9_208) rfl (pc' := 210) rfl ?_
  refine own_lxor X4 hx (hb hby d9_210) (pc' := 211) rfl ?_
  refine own_lstore X4 hx (hb hby d9_211) (l' := #[vR ra, vR rb, vI u2, vI u3, vL (t3.1 + t3.2.1), vS, vL ((own_rot t3.2.1 (13 : Int32)) ^^^ (t3.1 + t3.2.1)), vS, vL t3.2.2.1, vS, vL (t3.2.2.2 ^^^ m3), vS, vI (u3 - u2), vI ((3 : Int32) + (1 : Int32)), vI (3 : Int32), vL m3, vS, vI oa3, vI u3, vI ob3]) rfl (pc' := 213) rfl ?_
  refine own_lload X4 hx (hb hby d9_213) rfl (pc' := 215) rfl ?_
  refine own_bipush X4 hx (hb hby d9_215) (z := (32 : Int32)) (by decide) (pc' := 217) rfl ?_
  refine own_lshl X4 hx (hb hby d9_217) (pc' := 218) rfl ?_
  refine own_lload X4 hx (hb hby d9_218) rfl (pc' := 220) rfl ?_
  refine own_bipush X4 hx (hb hby d9_220) (z := (32 : Int32)) (by decide) (pc' := 222) rfl ?_
  refine own_lushr X4 hx (hb hby d9_222) (pc' := 223) rfl ?_
  refine own_lor X4 hx (hb hby d9_223) (pc' := 224) rfl ?_
  rw [own_r32]
  refine own_lstore X4 hx (hb hby d9_224) (l' := #[vR ra, vR rb, vI u2, vI u3, vL (own_rot (t3.1 + t3.2.1) (32 : Int32)), vS, vL ((own_rot t3.2.1 (13 : Int32)) ^^^ (t3.1 + t3.2.1)), vS, vL t3.2.2.1, vS, vL (t3.2.2.2 ^^^ m3), vS, vI (u3 - u2), vI ((3 : Int32) + (1 : Int32)), vI (3 : Int32), vL m3, vS, vI oa3, vI u3, vI ob3]) rfl (pc' := 226) rfl ?_
  refine own_lload X4 hx (hb hby d9_226) rfl (pc' := 228) rfl ?_
  refine own_lload X4 hx (hb hby d9_228) rfl (pc' := 230) rfl ?_
  refine own_ladd X4 hx (hb hby d9_230) (pc' := 231) rfl ?_
  refine own_lstore X4 hx (hb hby d9_231) (l' := #[vR ra, vR rb, vI u2, vI u3, vL (own_rot (t3.1 + t3.2.1) (32 : Int32)), vS, vL ((own_rot t3.2.1 (13 : Int32)) ^^^ (t3.1 + t3.2.1)), vS, vL (t3.2.2.1 + (t3.2.2.2 ^^^ m3)), vS, vL (t3.2.2.2 ^^^ m3), vS, vI (u3 - u2), vI ((3 : Int32) + (1 : Int32)), vI (3 : Int32), vL m3, vS, vI oa3, vI u3, vI ob3]) rfl (pc' := 233) rfl ?_
  refine own_lload X4 hx (hb hby d9_233) rfl (pc' := 235) rfl ?_
  refine own_bipush X4 hx (hb hby d9_235) (z := (16 : Int32)) (by decide) (pc' := 237) rfl ?_
  refine own_lshl X4 hx (hb hby d9_237) (pc' := 238) rfl ?_
  refine own_lload X4 hx (hb hby d9_238) rfl (pc' := 240) rfl ?_
  refine own_bipush X4 hx (hb hby d9_240) (z := (48 : Int32)) (by decide) (pc' := 242) rfl ?_
  refine own_lushr X4 hx (hb hby d9_242) (pc' := 243) rfl ?_
  refine own_lor X4 hx (hb hby d9_243) (pc' := 244) rfl ?_
  rw [own_r16]
  refine own_lstore X4 hx (hb hby d9_244) (l' := #[vR ra, vR rb, vI u2, vI u3, vL (own_rot (t3.1 + t3.2.1) (32 : Int32)), vS, vL ((own_rot t3.2.1 (13 : Int32)) ^^^ (t3.1 + t3.2.1)), vS, vL (t3.2.2.1 + (t3.2.2.2 ^^^ m3)), vS, vL (own_rot (t3.2.2.2 ^^^ m3) (16 : Int32)), vS, vI (u3 - u2), vI ((3 : Int32) + (1 : Int32)), vI (3 : Int32), vL m3, vS, vI oa3, vI u3, vI ob3]) rfl (pc' := 246) rfl ?_
  refine own_lload X4 hx (hb hby d9_246) rfl (pc' := 248) rfl ?_
  refine own_lload X4 hx (hb hby d9_248) rfl (pc' := 250) rfl ?_
  refine own_lxor X4 hx (hb hby d9_250) (pc' := 251) rfl ?_
  refine own_lstore X4 hx (hb hby d9_251) (l' := #[vR ra, vR rb, vI u2, vI u3, vL (own_rot (t3.1 + t3.2.1) (32 : Int32)), vS, vL ((own_rot t3.2.1 (13 : Int32)) ^^^ (t3.1 + t3.2.1)), vS, vL (t3.2.2.1 + (t3.2.2.2 ^^^ m3)), vS, vL ((own_rot (t3.2.2.2 ^^^ m3) (16 : Int32)) ^^^ (t3.2.2.1 + (t3.2.2.2 ^^^ m3))), vS, vI (u3 - u2), vI ((3 : Int32) + (1 : Int32)), vI (3 : Int32), vL m3, vS, vI oa3, vI u3, vI ob3]) rfl (pc' := 253) rfl ?_
  refine own_lload X4 hx (hb hby d9_253) rfl (pc' := 255) rfl ?_
  refine own_lload X4 hx (hb hby d9_255) rfl (pc' := 257) rfl ?_
  refine own_ladd X4 hx (hb hby d9_257) (pc' := 258) rfl ?_
  refine own_lstore X4 hx (hb hby d9_258) (l' := #[vR ra, vR rb, vI u2, vI u3, vL ((own_rot (t3.1 + t3.2.1) (32 : Int32)) + ((own_rot (t3.2.2.2 ^^^ m3) (16 : Int32)) ^^^ (t3.2.2.1 + (t3.2.2.2 ^^^ m3)))), vS, vL ((own_rot t3.2.1 (13 : Int32)) ^^^ (t3.1 + t3.2.1)), vS, vL (t3.2.2.1 + (t3.2.2.2 ^^^ m3)), vS, vL ((own_rot (t3.2.2.2 ^^^ m3) (16 : Int32)) ^^^ (t3.2.2.1 + (t3.2.2.2 ^^^ m3))), vS, vI (u3 - u2), vI ((3 : Int32) + (1 : Int32)), vI (3 : Int32), vL m3, vS, vI oa3, vI u3, vI ob3]) rfl (pc' := 260) rfl ?_
  refine own_lload X4 hx (hb hby d9_260) rfl (pc' := 262) rfl ?_
  refine own_bipush X4 hx (hb hby d9_262) (z := (21 : Int32)) (by decide) (pc' := 264) rfl ?_
  refine own_lshl X4 hx (hb hby d9_264) (pc' := 265) rfl ?_
  refine own_lload X4 hx (hb hby d9_265) rfl (pc' := 267) rfl ?_
  refine own_bipush X4 hx (hb hby d9_267) (z := (43 : Int32)) (by decide) (pc' := 269) rfl ?_
  refine own_lushr X4 hx (hb hby d9_269) (pc' := 270) rfl ?_
  refine own_lor X4 hx (hb hby d9_270) (pc' := 271) rfl ?_
  rw [own_r21]
  refine own_lstore X4 hx (hb hby d9_271) (l' := #[vR ra, vR rb, vI u2, vI u3, vL ((own_rot (t3.1 + t3.2.1) (32 : Int32)) + ((own_rot (t3.2.2.2 ^^^ m3) (16 : Int32)) ^^^ (t3.2.2.1 + (t3.2.2.2 ^^^ m3)))), vS, vL ((own_rot t3.2.1 (13 : Int32)) ^^^ (t3.1 + t3.2.1)), vS, vL (t3.2.2.1 + (t3.2.2.2 ^^^ m3)), vS, vL (own_rot ((own_rot (t3.2.2.2 ^^^ m3) (16 : Int32)) ^^^ (t3.2.2.1 + (t3.2.2.2 ^^^ m3))) (21 : Int32)), vS, vI (u3 - u2), vI ((3 : Int32) + (1 : Int32)), vI (3 : Int32), vL m3, vS, vI oa3, vI u3, vI ob3]) rfl (pc' := 273) rfl ?_
  refine own_lload X4 hx (hb hby d9_273) rfl (pc' := 275) rfl ?_
  refine own_lload X4 hx (hb hby d9_275) rfl (pc' := 277) rfl ?_
  refine own_lxor X4 hx (hb hby d9_277) (pc' := 278) rfl ?_
  refine own_lstore X4 hx (hb hby d9_278) (l' := #[vR ra, vR rb, vI u2, vI u3, vL ((own_rot (t3.1 + t3.2.1) (32 : Int32)) + ((own_rot (t3.2.2.2 ^^^ m3) (16 : Int32)) ^^^ (t3.2.2.1 + (t3.2.2.2 ^^^ m3)))), vS, vL ((own_rot t3.2.1 (13 : Int32)) ^^^ (t3.1 + t3.2.1)), vS, vL (t3.2.2.1 + (t3.2.2.2 ^^^ m3)), vS, vL ((own_rot ((own_rot (t3.2.2.2 ^^^ m3) (16 : Int32)) ^^^ (t3.2.2.1 + (t3.2.2.2 ^^^ m3))) (21 : Int32)) ^^^ ((own_rot (t3.1 + t3.2.1) (32 : Int32)) + ((own_rot (t3.2.2.2 ^^^ m3) (16 : Int32)) ^^^ (t3.2.2.1 + (t3.2.2.2 ^^^ m3))))), vS, vI (u3 - u2), vI ((3 : Int32) + (1 : Int32)), vI (3 : Int32), vL m3, vS, vI oa3, vI u3, vI ob3]) rfl (pc' := 280) rfl ?_
  refine own_lload X4 hx (hb hby d9_280) rfl (pc' := 282) rfl ?_
  refine own_lload X4 hx (hb hby d9_282) rfl (pc' := 284) rfl ?_
  refine own_ladd X4 hx (hb hby d9_284) (pc' := 285) rfl ?_
  refine own_lstore X4 hx (hb hby d9_285) (l' := #[vR ra, vR rb, vI u2, vI u3, vL ((own_rot (t3.1 + t3.2.1) (32 : Int32)) + ((own_rot (t3.2.2.2 ^^^ m3) (16 : Int32)) ^^^ (t3.2.2.1 + (t3.2.2.2 ^^^ m3)))), vS, vL ((own_rot t3.2.1 (13 : Int32)) ^^^ (t3.1 + t3.2.1)), vS, vL ((t3.2.2.1 + (t3.2.2.2 ^^^ m3)) + ((own_rot t3.2.1 (13 : Int32)) ^^^ (t3.1 + t3.2.1))), vS, vL ((own_rot ((own_rot (t3.2.2.2 ^^^ m3) (16 : Int32)) ^^^ (t3.2.2.1 + (t3.2.2.2 ^^^ m3))) (21 : Int32)) ^^^ ((own_rot (t3.1 + t3.2.1) (32 : Int32)) + ((own_rot (t3.2.2.2 ^^^ m3) (16 : Int32)) ^^^ (t3.2.2.1 + (t3.2.2.2 ^^^ m3))))), vS, vI (u3 - u2), vI ((3 : Int32) + (1 : Int32)), vI (3 : Int32), vL m3, vS, vI oa3, vI u3, vI ob3]) rfl (pc' := 287) rfl ?_
  refine own_lload X4 hx (hb hby d9_287) rfl (pc' := 289) rfl ?_
  refine own_bipush X4 hx (hb hby d9_289) (z := (17 : Int32)) (by decide) (pc' := 291) rfl ?_
  refine own_lshl X4 hx (hb hby d9_291) (pc' := 292) rfl ?_
  refine own_lload X4 hx (hb hby d9_292) rfl (pc' := 294) rfl ?_
  refine own_bipush X4 hx (hb hby d9_294) (z := (47 : Int32)) (by decide) (pc' := 296) rfl ?_
  refine own_lushr X4 hx (hb hby d9_296) (pc' := 297) rfl ?_
  refine own_lor X4 hx (hb hby d9_297) (pc' := 298) rfl ?_
  rw [own_r17]
  refine own_lstore X4 hx (hb hby d9_298) (l' := #[vR ra, vR rb, vI u2, vI u3, vL ((own_rot (t3.1 + t3.2.1) (32 : Int32)) + ((own_rot (t3.2.2.2 ^^^ m3) (16 : Int32)) ^^^ (t3.2.2.1 + (t3.2.2.2 ^^^ m3)))), vS, vL (own_rot ((own_rot t3.2.1 (13 : Int32)) ^^^ (t3.1 + t3.2.1)) (17 : Int32)), vS, vL ((t3.2.2.1 + (t3.2.2.2 ^^^ m3)) + ((own_rot t3.2.1 (13 : Int32)) ^^^ (t3.1 + t3.2.1))), vS, vL ((own_rot ((own_rot (t3.2.2.2 ^^^ m3) (16 : Int32)) ^^^ (t3.2.2.1 + (t3.2.2.2 ^^^ m3))) (21 : Int32)) ^^^ ((own_rot (t3.1 + t3.2.1) (32 : Int32)) + ((own_rot (t3.2.2.2 ^^^ m3) (16 : Int32)) ^^^ (t3.2.2.1 + (t3.2.2.2 ^^^ m3))))), vS, vI (u3 - u2), vI ((3 : Int32) + (1 : Int32)), vI (3 : Int32), vL m3, vS, vI oa3, vI u3, vI ob3]) rfl (pc' := 300) rfl ?_
  refine own_lload X4 hx (hb hby d9_300) rfl (pc' := 302) rfl ?_
  refine own_lload X4 hx (hb hby d9_302) rfl (pc' := 304) rfl ?_
  refine own_lxor X4 hx (hb hby d9_304) (pc' := 305) rfl ?_
  refine own_lstore X4 hx (hb hby d9_305) (l' := #[vR ra, vR rb, vI u2, vI u3, vL ((own_rot (t3.1 + t3.2.1) (32 : Int32)) + ((own_rot (t3.2.2.2 ^^^ m3) (16 : Int32)) ^^^ (t3.2.2.1 + (t3.2.2.2 ^^^ m3)))), vS, vL ((own_rot ((own_rot t3.2.1 (13 : Int32)) ^^^ (t3.1 + t3.2.1)) (17 : Int32)) ^^^ ((t3.2.2.1 + (t3.2.2.2 ^^^ m3)) + ((own_rot t3.2.1 (13 : Int32)) ^^^ (t3.1 + t3.2.1)))), vS, vL ((t3.2.2.1 + (t3.2.2.2 ^^^ m3)) + ((own_rot t3.2.1 (13 : Int32)) ^^^ (t3.1 + t3.2.1))), vS, vL ((own_rot ((own_rot (t3.2.2.2 ^^^ m3) (16 : Int32)) ^^^ (t3.2.2.1 + (t3.2.2.2 ^^^ m3))) (21 : Int32)) ^^^ ((own_rot (t3.1 + t3.2.1) (32 : Int32)) + ((own_rot (t3.2.2.2 ^^^ m3) (16 : Int32)) ^^^ (t3.2.2.1 + (t3.2.2.2 ^^^ m3))))), vS, vI (u3 - u2), vI ((3 : Int32) + (1 : Int32)), vI (3 : Int32), vL m3, vS, vI oa3, vI u3, vI ob3]) rfl (pc' := 307) rfl ?_
  refine own_lload X4 hx (hb hby d9_307) rfl (pc' := 309) rfl ?_
  refine own_bipush X4 hx (hb hby d9_309) (z := (32 : Int32)) (by decide) (pc' := 311) rfl ?_
  refine own_lshl X4 hx (hb hby d9_311) (pc' := 312) rfl ?_
  refine own_lload X4 hx (hb hby d9_312) rfl (pc' := 314) rfl ?_
  refine own_bipush X4 hx (hb hby d9_314) (z := (32 : Int32)) (by decide) (pc' := 316) rfl ?_
  refine own_lushr X4 hx (hb hby d9_316) (pc' := 317) rfl ?_
  refine own_lor X4 hx (hb hby d9_317) (pc' := 318) rfl ?_
  rw [own_r32]
  refine own_lstore X4 hx (hb hby d9_318) (l' := #[vR ra, vR rb, vI u2, vI u3, vL ((own_rot (t3.1 + t3.2.1) (32 : Int32)) + ((own_rot (t3.2.2.2 ^^^ m3) (16 : Int32)) ^^^ (t3.2.2.1 + (t3.2.2.2 ^^^ m3)))), vS, vL ((own_rot ((own_rot t3.2.1 (13 : Int32)) ^^^ (t3.1 + t3.2.1)) (17 : Int32)) ^^^ ((t3.2.2.1 + (t3.2.2.2 ^^^ m3)) + ((own_rot t3.2.1 (13 : Int32)) ^^^ (t3.1 + t3.2.1)))), vS, vL (own_rot ((t3.2.2.1 + (t3.2.2.2 ^^^ m3)) + ((own_rot t3.2.1 (13 : Int32)) ^^^ (t3.1 + t3.2.1))) (32 : Int32)), vS, vL ((own_rot ((own_rot (t3.2.2.2 ^^^ m3) (16 : Int32)) ^^^ (t3.2.2.1 + (t3.2.2.2 ^^^ m3))) (21 : Int32)) ^^^ ((own_rot (t3.1 + t3.2.1) (32 : Int32)) + ((own_rot (t3.2.2.2 ^^^ m3) (16 : Int32)) ^^^ (t3.2.2.1 + (t3.2.2.2 ^^^ m3))))), vS, vI (u3 - u2), vI ((3 : Int32) + (1 : Int32)), vI (3 : Int32), vL m3, vS, vI oa3, vI u3, vI ob3]) rfl (pc' := 320) rfl ?_
  refine own_lload X4 hx (hb hby d9_320) rfl (pc' := 322) rfl ?_
  refine own_lload X4 hx (hb hby d9_322) rfl (pc' := 324) rfl ?_
  refine own_lxor X4 hx (hb hby d9_324) (pc' := 325) rfl ?_
  refine own_lstore X4 hx (hb hby d9_325) (l' := #[vR ra, vR rb, vI u2, vI u3, vL (((own_rot (t3.1 + t3.2.1) (32 : Int32)) + ((own_rot (t3.2.2.2 ^^^ m3) (16 : Int32)) ^^^ (t3.2.2.1 + (t3.2.2.2 ^^^ m3)))) ^^^ m3), vS, vL ((own_rot ((own_rot t3.2.1 (13 : Int32)) ^^^ (t3.1 + t3.2.1)) (17 : Int32)) ^^^ ((t3.2.2.1 + (t3.2.2.2 ^^^ m3)) + ((own_rot t3.2.1 (13 : Int32)) ^^^ (t3.1 + t3.2.1)))), vS, vL (own_rot ((t3.2.2.1 + (t3.2.2.2 ^^^ m3)) + ((own_rot t3.2.1 (13 : Int32)) ^^^ (t3.1 + t3.2.1))) (32 : Int32)), vS, vL ((own_rot ((own_rot (t3.2.2.2 ^^^ m3) (16 : Int32)) ^^^ (t3.2.2.1 + (t3.2.2.2 ^^^ m3))) (21 : Int32)) ^^^ ((own_rot (t3.1 + t3.2.1) (32 : Int32)) + ((own_rot (t3.2.2.2 ^^^ m3) (16 : Int32)) ^^^ (t3.2.2.1 + (t3.2.2.2 ^^^ m3))))), vS, vI (u3 - u2), vI ((3 : Int32) + (1 : Int32)), vI (3 : Int32), vL m3, vS, vI oa3, vI u3, vI ob3]) rfl (pc' := 327) rfl ?_
  refine own_iinc X4 hx (hb hby d9_327) rfl (z := (1 : Int32)) rfl (l' := #[vR ra, vR rb, vI u2, vI u3, vL (((own_rot (t3.1 + t3.2.1) (32 : Int32)) + ((own_rot (t3.2.2.2 ^^^ m3) (16 : Int32)) ^^^ (t3.2.2.1 + (t3.2.2.2 ^^^ m3)))) ^^^ m3), vS, vL ((own_rot ((own_rot t3.2.1 (13 : Int32)) ^^^ (t3.1 + t3.2.1)) (17 : Int32)) ^^^ ((t3.2.2.1 + (t3.2.2.2 ^^^ m3)) + ((own_rot t3.2.1 (13 : Int32)) ^^^ (t3.1 + t3.2.1)))), vS, vL (own_rot ((t3.2.2.1 + (t3.2.2.2 ^^^ m3)) + ((own_rot t3.2.1 (13 : Int32)) ^^^ (t3.1 + t3.2.1))) (32 : Int32)), vS, vL ((own_rot ((own_rot (t3.2.2.2 ^^^ m3) (16 : Int32)) ^^^ (t3.2.2.1 + (t3.2.2.2 ^^^ m3))) (21 : Int32)) ^^^ ((own_rot (t3.1 + t3.2.1) (32 : Int32)) + ((own_rot (t3.2.2.2 ^^^ m3) (16 : Int32)) ^^^ (t3.2.2.1 + (t3.2.2.2 ^^^ m3))))), vS, vI (u3 - u2), vI ((3 : Int32) + (1 : Int32)), vI ((3 : Int32) + (1 : Int32)), vL m3, vS, vI oa3, vI u3, vI ob3]) rfl (pc' := 330) rfl ?_
  refine own_goto X4 hx (hb hby d9_330) (by decide) (pc' := 57) rfl ?_
  show own_G p e below s _ _ _ (T4.setTop (mkF m 57 #[vR ra, vR rb, vI u2, vI u3, vL ((own_comp m3 t3).1), vS, vL ((own_comp m3 t3).2.1), vS, vL ((own_comp m3 t3).2.2.1), vS, vL ((own_comp m3 t3).2.2.2), vS, vI (u3 - u2), vI ((3 : Int32) + (1 : Int32)), vI (4 : Int32), vL m3, vS, vI oa3, vI u3, vI ob3] []))
  generalize ht4 : (own_comp m3 t3) = t4
  refine own_iload X4 hx (hb hby d9_57) rfl (pc' := 59) rfl ?_
  refine own_iload X4 hx (hb hby d9_59) rfl (pc' := 61) rfl ?_
  refine own_iconst X4 hx (hb hby d9_61) (z := (3 : Int32)) rfl (pc' := 62) rfl ?_
  refine own_iadd X4 hx (hb hby d9_62) (pc' := 63) rfl ?_
  refine own_icmpF X4 hx (hb hby d9_63) (by decide) (pc' := 66) rfl ?_
  refine own_lconst X4 hx (hb hby d9_66) (z := (0 : Int64)) (by decide) (pc' := 67) rfl ?_
  refine own_lstore X4 hx (hb hby d9_67) (l' := #[vR ra, vR rb, vI u2, vI u3, vL t4.1, vS, vL t4.2.1, vS, vL t4.2.2.1, vS, vL t4.2.2.2, vS, vI (u3 - u2), vI ((3 : Int32) + (1 : Int32)), vI (4 : Int32), vL (0 : Int64), vS, vI oa3, vI u3, vI ob3]) rfl (pc' := 69) rfl ?_
  refine own_iload X4 hx (hb hby d9_69) rfl (pc' := 71) rfl ?_
  refine own_iload X4 hx (hb hby d9_71) rfl (pc' := 73) rfl ?_
  refine own_icmpT X4 hx (hb hby d9_73) (by decide) (by decide) (pc' := 164) rfl ?_
  refine own_iload X4 hx (hb hby d9_164) rfl (pc' := 166) rfl ?_
  refine own_iload X4 hx (hb hby d9_166) rfl (pc' := 168) rfl ?_
  refine own_icmpF X4 hx (hb hby d9_168) (by decide) (pc' := 171) rfl ?_
  refine own_lload X4 hx (hb hby d9_171) rfl (pc' := 173) rfl ?_
  refine own_ldc2 X4 hx hZ hown (ow_49 hw) (hb hby d9_173) (pc' := 176) rfl ?_
  refine own_lxor X4 hx (hb hby d9_176) (pc' := 177) rfl ?_
  refine own_lstore X4 hx (hb hby d9_177) (l' := #[vR ra, vR rb, vI u2, vI u3, vL t4.1, vS, vL t4.2.1, vS, vL (t4.2.2.1 ^^^ (255 : Int64)), vS, vL t4.2.2.2, vS, vI (u3 - u2), vI ((3 : Int32) + (1 : Int32)), vI (4 : Int32), vL (0 : Int64), vS, vI oa3, vI u3, vI ob3]) rfl (pc' := 179) rfl ?_
  refine own_lload X4 hx (hb hby d9_179) rfl (pc' := 181) rfl ?_
  refine own_lload X4 hx (hb hby d9_181) rfl (pc' := 183) rfl ?_
  refine own_lxor X4 hx (hb hby d9_183) (pc' := 184) rfl ?_
  refine own_lstore X4 hx (hb hby d9_184) (l' := #[vR ra, vR rb, vI u2, vI u3, vL t4.1, vS, vL t4.2.1, vS, vL (t4.2.2.1 ^^^ (255 : Int64)), vS, vL (t4.2.2.2 ^^^ (0 : Int64)), vS, vI (u3 - u2), vI ((3 : Int32) + (1 : Int32)), vI (4 : Int32), vL (0 : Int64), vS, vI oa3, vI u3, vI ob3]) rfl (pc' := 186) rfl ?_
  refine own_lload X4 hx (hb hby d9_186) rfl (pc' := 188) rfl ?_
  refine own_lload X4 hx (hb hby d9_188) rfl (pc' := 190) rfl ?_
  refine own_ladd X4 hx (hb hby d9_190) (pc' := 191) rfl ?_
  refine own_lstore X4 hx (hb hby d9_191) (l' := #[vR ra, vR rb, vI u2, vI u3, vL (t4.1 + t4.2.1), vS, vL t4.2.1, vS, vL (t4.2.2.1 ^^^ (255 : Int64)), vS, vL (t4.2.2.2 ^^^ (0 : Int64)), vS, vI (u3 - u2), vI ((3 : Int32) + (1 : Int32)), vI (4 : Int32), vL (0 : Int64), vS, vI oa3, vI u3, vI ob3]) rfl (pc' := 193) rfl ?_
  refine own_lload X4 hx (hb hby d9_193) rfl (pc' := 195) rfl ?_
  refine own_bipush X4 hx (hb hby d9_195) (z := (13 : Int32)) (by decide) (pc' := 197) rfl ?_
  refine own_lshl X4 hx (hb hby d9_197) (pc' := 198) rfl ?_
  refine own_lload X4 hx (hb hby d9_198) rfl (pc' := 200) rfl ?_
  refine own_bipush X4 hx (hb hby d9_200) (z := (51 : Int32)) (by decide) (pc' := 202) rfl ?_
  refine own_lushr X4 hx (hb hby d9_202) (pc' := 203) rfl ?_
  refine own_lor X4 hx (hb hby d9_203) (pc' := 204) rfl ?_
  rw [own_r13]
  refine own_lstore X4 hx (hb hby d9_204) (l' := #[vR ra, vR rb, vI u2, vI u3, vL (t4.1 + t4.2.1), vS, vL (own_rot t4.2.1 (13 : Int32)), vS, vL (t4.2.2.1 ^^^ (255 : Int64)), vS, vL (t4.2.2.2 ^^^ (0 : Int64)), vS, vI (u3 - u2), vI ((3 : Int32) + (1 : Int32)), vI (4 : Int32), vL (0 : Int64), vS, vI oa3, vI u3, vI ob3]) rfl (pc' := 206) rfl ?_
  refine own_lload X4 hx (hb hby d9_206) rfl (pc' := 208) rfl ?_
  refine own_lload X4 hx (hb hby d9_208) rfl (pc' := 210) rfl ?_
  refine own_lxor X4 hx (hb hby d9_210) (pc' := 211) rfl ?_
  refine own_lstore X4 hx (hb hby d9_211) (l' := #[vR ra, vR rb, vI u2, vI u3, vL (t4.1 + t4.2.1), vS, vL ((own_rot t4.2.1 (13 : Int32)) ^^^ (t4.1 + t4.2.1)), vS, vL (t4.2.2.1 ^^^ (255 : Int64)), vS, vL (t4.2.2.2 ^^^ (0 : Int64)), vS, vI (u3 - u2), vI ((3 : Int32) + (1 : Int32)), vI (4 : Int32), vL (0 : Int64), vS, vI oa3, vI u3, vI ob3]) rfl (pc' := 213) rfl ?_
  refine own_lload X4 hx (hb hby d9_213) rfl (pc' := 215) rfl ?_
  refine own_bipush X4 hx (hb hby d9_215) (z := (32 : Int32)) (by decide) (pc' := 217) rfl ?_
  refine own_lshl X4 hx (hb hby d9_217) (pc' := 218) rfl ?_
  refine own_lload X4 hx (hb hby d9_218) rfl (pc' := 220) rfl ?_
  refine own_bipush X4 hx (hb hby d9_220) (z := (32 : Int32)) (by decide) (pc' := 222) rfl ?_
  refine own_lushr X4 hx (hb hby d9_222) (pc' := 223) rfl ?_
  refine own_lor X4 hx (hb hby d9_223) (pc' := 224) rfl ?_
  rw [own_r32]
  refine own_lstore X4 hx (hb hby d9_224) (l' := #[vR ra, vR rb, vI u2, vI u3, vL (own_rot (t4.1 + t4.2.1) (32 : Int32)), vS, vL ((own_rot t4.2.1 (13 : Int32)) ^^^ (t4.1 + t4.2.1)), vS, vL (t4.2.2.1 ^^^ (255 : Int64)), vS, vL (t4.2.2.2 ^^^ (0 : Int64)), vS, vI (u3 - u2), vI ((3 : Int32) + (1 : Int32)), vI (4 : Int32), vL (0 : Int64), vS, vI oa3, vI u3, vI ob3]) rfl (pc' := 226) rfl ?_
  refine own_lload X4 hx (hb hby d9_226) rfl (pc' := 228) rfl ?_
  refine own_lload X4 hx (hb hby d9_228) rfl (pc' := 230) rfl ?_
  refine own_ladd X4 hx (hb hby d9_230) (pc' := 231) rfl ?_
  refine own_lstore X4 hx (hb hby d9_231) (l' := #[vR ra, vR rb, vI u2, vI u3, vL (own_rot (t4.1 + t4.2.1) (32 : Int32)), vS, vL ((own_rot t4.2.1 (13 : Int32)) ^^^ (t4.1 + t4.2.1)), vS, vL ((t4.2.2.1 ^^^ (255 : Int64)) + (t4.2.2.2 ^^^ (0 : Int64))), vS, vL (t4.2.2.2 ^^^ (0 : Int64)), vS, vI (u3 - u2), vI ((3 : Int32) + (1 : Int32)), vI (4 : Int32), vL (0 : Int64), vS, vI oa3, vI u3, vI ob3]) rfl (pc' := 233) rfl ?_
  refine own_lload X4 hx (hb hby d9_233) rfl (pc' := 235) rfl ?_
  refine own_bipush X4 hx (hb hby d9_235) (z := (16 : Int32)) (by decide) (pc' := 237) rfl ?_
  refine own_lshl X4 hx (hb hby d9_237) (pc' := 238) rfl ?_
  refine own_lload X4 hx (hb hby d9_238) rfl (pc' := 240) rfl ?_
  refine own_bipush X4 hx (hb hby d9_240) (z := (48 : Int32)) (by decide) (pc' := 242) rfl ?_
  refine own_lushr X4 hx (hb hby d9_242) (pc' := 243) rfl ?_
  refine own_lor X4 hx (hb hby d9_243) (pc' := 244) rfl ?_
  rw [own_r16]
  refine own_lstore X4 hx (hb hby d9_244) (l' := #[vR ra, vR rb, vI u2, vI u3, vL (own_rot (t4.1 + t4.2.1) (32 : Int32)), vS, vL ((own_rot t4.2.1 (13 : Int32)) ^^^ (t4.1 + t4.2.1)), vS, vL ((t4.2.2.1 ^^^ (255 : Int64)) + (t4.2.2.2 ^^^ (0 : Int64))), vS, vL (own_rot (t4.2.2.2 ^^^ (0 : Int64)) (16 : Int32)), vS, vI (u3 - u2), vI ((3 : Int32) + (1 : Int32)), vI (4 : Int32), vL (0 : Int64), vS, vI oa3, vI u3, vI ob3]) rfl (pc' := 246) rfl ?_
  refine own_lload X4 hx (hb hby d9_246) rfl (pc' := 248) rfl ?_
  refine own_lload X4 hx (hb hby d9_248) rfl (pc' := 250) rfl ?_
  refine own_lxor X4 hx (hb hby d9_250) (pc' := 251) rfl ?_
  refine own_lstore X4 hx (hb hby d9_251) (l' := #[vR ra, vR rb, vI u2, vI u3, vL (own_rot (t4.1 + t4.2.1) (32 : Int32)), vS, vL ((own_rot t4.2.1 (13 : Int32)) ^^^ (t4.1 + t4.2.1)), vS, vL ((t4.2.2.1 ^^^ (255 : Int64)) + (t4.2.2.2 ^^^ (0 : Int64))), vS, vL ((own_rot (t4.2.2.2 ^^^ (0 : Int64)) (16 : Int32)) ^^^ ((t4.2.2.1 ^^^ (255 : Int64)) + (t4.2.2.2 ^^^ (0 : Int64)))), vS, vI (u3 - u2), vI ((3 : Int32) + (1 : Int32)), vI (4 : Int32), vL (0 : Int64), vS, vI oa3, vI u3, vI ob3]) rfl (pc' := 253) rfl ?_
  refine own_lload X4 hx (hb hby d9_253) rfl (pc' := 255) rfl ?_
  refine own_lload X4 hx (hb hby d9_255) rfl (pc' := 257) rfl ?_
  refine own_ladd X4 hx (hb hby d9_257) (pc' := 258) rfl ?_
  refine own_lstore X4 hx (hb hby d9_258) (l' := #[vR ra, vR rb, vI u2, vI u3, vL ((own_rot (t4.1 + t4.2.1) (32 : Int32)) + ((own_rot (t4.2.2.2 ^^^ (0 : Int64)) (16 : Int32)) ^^^ ((t4.2.2.1 ^^^ (255 : Int64)) + (t4.2.2.2 ^^^ (0 : Int64))))), vS, vL ((own_rot t4.2.1 (13 : Int32)) ^^^ (t4.1 + t4.2.1)), vS, vL ((t4.2.2.1 ^^^ (255 : Int64)) + (t4.2.2.2 ^^^ (0 : Int64))), vS, vL ((own_rot (t4.2.2.2 ^^^ (0 : Int64)) (16 : Int32)) ^^^ ((t4.2.2.1 ^^^ (255 : Int64)) + (t4.2.2.2 ^^^ (0 : Int64)))), vS, vI (u3 - u2), vI ((3 : Int32) + (1 : Int32)), vI (4 : Int32), vL (0 : Int64), vS, vI oa3, vI u3, vI ob3]) rfl (pc' := 260) rfl ?_
  refine own_lload X4 hx (hb hby d9_260) rfl (pc' := 262) rfl ?_
  refine own_bipush X4 hx (hb hby d9_262) (z := (21 : Int32)) (by decide) (pc' := 264) rfl ?_
  refine own_lshl X4 hx (hb hby d9_264) (pc' := 265) rfl ?_
  refine own_lload X4 hx (hb hby d9_265) rfl (pc' := 267) rfl ?_
  refine own_bipush X4 hx (hb hby d9_267) (z := (43 : Int32)) (by decide) (pc' := 269) rfl ?_
  refine own_lushr X4 hx (hb hby d9_269) (pc' := 270) rfl ?_
  refine own_lor X4 hx (hb hby d9_270) (pc' := 271) rfl ?_
  rw [own_r21]
  refine own_lstore X4 hx (hb hby d9_271) (l' := #[vR ra, vR rb, vI u2, vI u3, vL ((own_rot (t4.1 + t4.2.1) (32 : Int32)) + ((own_rot (t4.2.2.2 ^^^ (0 : Int64)) (16 : Int32)) ^^^ ((t4.2.2.1 ^^^ (255 : Int64)) + (t4.2.2.2 ^^^ (0 : Int64))))), vS, vL ((own_rot t4.2.1 (13 : Int32)) ^^^ (t4.1 + t4.2.1)), vS, vL ((t4.2.2.1 ^^^ (255 : Int64)) + (t4.2.2.2 ^^^ (0 : Int64))), vS, vL (own_rot ((own_rot (t4.2.2.2 ^^^ (0 : Int64)) (16 : Int32)) ^^^ ((t4.2.2.1 ^^^ (255 : Int64)) + (t4.2.2.2 ^^^ (0 : Int64)))) (21 : Int32)), vS, vI (u3 - u2), vI ((3 : Int32) + (1 : Int32)), vI (4 : Int32), vL (0 : Int64), vS, vI oa3, vI u3, vI ob3]) rfl (pc' := 273) rfl ?_
  refine own_lload X4 hx (hb hby d9_273) rfl (pc' := 275) rfl ?_
  refine own_lload X4 hx (hb hby d9_275) rfl (pc' := 277) rfl ?_
  refine own_lxor X4 hx (hb hby d9_277) (pc' := 278) rfl ?_
  refine own_lstore X4 hx (hb hby d9_278) (l' := #[vR ra, vR rb, vI u2, vI u3, vL ((own_rot (t4.1 + t4.2.1) (32 : Int32)) + ((own_rot (t4.2.2.2 ^^^ (0 : Int64)) (16 : Int32)) ^^^ ((t4.2.2.1 ^^^ (255 : Int64)) + (t4.2.2.2 ^^^ (0 : Int64))))), vS, vL ((own_rot t4.2.1 (13 : Int32)) ^^^ (t4.1 + t4.2.1)), vS, vL ((t4.2.2.1 ^^^ (255 : Int64)) + (t4.2.2.2 ^^^ (0 : Int64))), vS, vL ((own_rot ((own_rot (t4.2.2.2 ^^^ (0 : Int64)) (16 : Int32)) ^^^ ((t4.2.2.1 ^^^ (255 : Int64)) + (t4.2.2.2 ^^^ (0 : Int64)))) (21 : Int32)) ^^^ ((own_rot (t4.1 + t4.2.1) (32 : Int32)) + ((own_rot (t4.2.2.2 ^^^ (0 : Int64)) (16 : Int32)) ^^^ ((t4.2.2.1 ^^^ (255 : Int64)) + (t4.2.2.2 ^^^ (0 : Int64)))))), vS, vI (u3 - u2), vI ((3 : Int32) + (1 : Int32)), vI (4 : Int32), vL (0 : Int64), vS, vI oa3, vI u3, vI ob3]) rfl (pc' := 280) rfl ?_
  refine own_lload X4 hx (hb hby d9_280) rfl (pc' := 282) rfl ?_
  refine own_lload X4 hx (hb hby d9_282) rfl (pc' := 284) rfl ?_
  refine own_ladd X4 hx (hb hby d9_284) (pc' := 285) rfl ?_
  refine own_lstore X4 hx (hb hby d9_285) (l' := #[vR ra, vR rb, vI u2, vI u3, vL ((own_rot (t4.1 + t4.2.1) (32 : Int32)) + ((own_rot (t4.2.2.2 ^^^ (0 : Int64)) (16 : Int32)) ^^^ ((t4.2.2.1 ^^^ (255 : Int64)) + (t4.2.2.2 ^^^ (0 : Int64))))), vS, vL ((own_rot t4.2.1 (13 : Int32)) ^^^ (t4.1 + t4.2.1)), vS, vL (((t4.2.2.1 ^^^ (255 : Int64)) + (t4.2.2.2 ^^^ (0 : Int64))) + ((own_rot t4.2.1 (13 : Int32)) ^^^ (t4.1 + t4.2.1))), vS, vL ((own_rot ((own_rot (t4.2.2.2 ^^^ (0 : Int64)) (16 : Int32)) ^^^ ((t4.2.2.1 ^^^ (255 : Int64)) + (t4.2.2.2 ^^^ (0 : Int64)))) (21 : Int32)) ^^^ ((own_rot (t4.1 + t4.2.1) (32 : Int32)) + ((own_rot (t4.2.2.2 ^^^ (0 : Int64)) (16 : Int32)) ^^^ ((t4.2.2.1 ^^^ (255 : Int64)) + (t4.2.2.2 ^^^ (0 : Int64)))))), vS, vI (u3 - u2), vI ((3 : Int32) + (1 : Int32)), vI (4 : Int32), vL (0 : Int64), vS, vI oa3, vI u3, vI ob3]) rfl (pc' := 287) rfl ?_
  refine own_lload X4 hx (hb hby d9_287) rfl (pc' := 289) rfl ?_
  refine own_bipush X4 hx (hb hby d9_289) (z := (17 : Int32)) (by decide) (pc' := 291) rfl ?_
  refine own_lshl X4 hx (hb hby d9_291) (pc' := 292) rfl ?_
  refine own_lload X4 hx (hb hby d9_292) rfl (pc' := 294) rfl ?_
  refine own_bipush X4 hx (hb hby d9_294) (z := (47 : Int32)) (by decide) (pc' := 296) rfl ?_
  refine own_lushr X4 hx (hb hby d9_296) (pc' := 297) rfl ?_
  refine own_lor X4 hx (hb hby d9_297) (pc' := 298) rfl ?_
  rw [own_r17]
  refine own_lstore X4 hx (hb hby d9_298) (l' := #[vR ra, vR rb, vI u2, vI u3, vL ((own_rot (t4.1 + t4.2.1) (32 : Int32)) + ((own_rot (t4.2.2.2 ^^^ (0 : Int64)) (16 : Int32)) ^^^ ((t4.2.2.1 ^^^ (255 : Int64)) + (t4.2.2.2 ^^^ (0 : Int64))))), vS, vL (own_rot ((own_rot t4.2.1 (13 : Int32)) ^^^ (t4.1 + t4.2.1)) (17 : Int32)), vS, vL (((t4.2.2.1 ^^^ (255 : Int64)) + (t4.2.2.2 ^^^ (0 : Int64))) + ((own_rot t4.2.1 (13 : Int32)) ^^^ (t4.1 + t4.2.1))), vS, vL ((own_rot ((own_rot (t4.2.2.2 ^^^ (0 : Int64)) (16 : Int32)) ^^^ ((t4.2.2.1 ^^^ (255 : Int64)) + (t4.2.2.2 ^^^ (0 : Int64)))) (21 : Int32)) ^^^ ((own_rot (t4.1 + t4.2.1) (32 : Int32)) + ((own_rot (t4.2.2.2 ^^^ (0 : Int64)) (16 : Int32)) ^^^ ((t4.2.2.1 ^^^ (255 : Int64)) + (t4.2.2.2 ^^^ (0 : Int64)))))), vS, vI (u3 - u2), vI ((3 : Int32) + (1 : Int32)), vI (4 : Int32), vL (0 : Int64), vS, vI oa3, vI u3, vI ob3]) rfl (pc' := 300) rfl ?_
  refine own_lload X4 hx (hb hby d9_300) rfl (pc' := 302) rfl ?_
  refine own_lload X4 hx (hb hby d9_302) rfl (pc' := 304) rfl ?_
  refine own_lxor X4 hx (hb hby d9_304) (pc' := 305) rfl ?_
  refine own_lstore X4 hx (hb hby d9_305) (l' := #[vR ra, vR rb, vI u2, vI u3, vL ((own_rot (t4.1 + t4.2.1) (32 : Int32)) + ((own_rot (t4.2.2.2 ^^^ (0 : Int64)) (16 : Int32)) ^^^ ((t4.2.2.1 ^^^ (255 : Int64)) + (t4.2.2.2 ^^^ (0 : Int64))))), vS, vL ((own_rot ((own_rot t4.2.1 (13 : Int32)) ^^^ (t4.1 + t4.2.1)) (17 : Int32)) ^^^ (((t4.2.2.1 ^^^ (255 : Int64)) + (t4.2.2.2 ^^^ (0 : Int64))) + ((own_rot t4.2.1 (13 : Int32)) ^^^ (t4.1 + t4.2.1)))), vS, vL (((t4.2.2.1 ^^^ (255 : Int64)) + (t4.2.2.2 ^^^ (0 : Int64))) + ((own_rot t4.2.1 (13 : Int32)) ^^^ (t4.1 + t4.2.1))), vS, vL ((own_rot ((own_rot (t4.2.2.2 ^^^ (0 : Int64)) (16 : Int32)) ^^^ ((t4.2.2.1 ^^^ (255 : Int64)) + (t4.2.2.2 ^^^ (0 : Int64)))) (21 : Int32)) ^^^ ((own_rot (t4.1 + t4.2.1) (32 : Int32)) + ((own_rot (t4.2.2.2 ^^^ (0 : Int64)) (16 : Int32)) ^^^ ((t4.2.2.1 ^^^ (255 : Int64)) + (t4.2.2.2 ^^^ (0 : Int64)))))), vS, vI (u3 - u2), vI ((3 : Int32) + (1 : Int32)), vI (4 : Int32), vL (0 : Int64), vS, vI oa3, vI u3, vI ob3]) rfl (pc' := 307) rfl ?_
  refine own_lload X4 hx (hb hby d9_307) rfl (pc' := 309) rfl ?_
  refine own_bipush X4 hx (hb hby d9_309) (z := (32 : Int32)) (by decide) (pc' := 311) rfl ?_
  refine own_lshl X4 hx (hb hby d9_311) (pc' := 312) rfl ?_
  refine own_lload X4 hx (hb hby d9_312) rfl (pc' := 314) rfl ?_
  refine own_bipush X4 hx (hb hby d9_314) (z := (32 : Int32)) (by decide) (pc' := 316) rfl ?_
  refine own_lushr X4 hx (hb hby d9_316) (pc' := 317) rfl ?_
  refine own_lor X4 hx (hb hby d9_317) (pc' := 318) rfl ?_
  rw [own_r32]
  refine own_lstore X4 hx (hb hby d9_318) (l' := #[vR ra, vR rb, vI u2, vI u3, vL ((own_rot (t4.1 + t4.2.1) (32 : Int32)) + ((own_rot (t4.2.2.2 ^^^ (0 : Int64)) (16 : Int32)) ^^^ ((t4.2.2.1 ^^^ (255 : Int64)) + (t4.2.2.2 ^^^ (0 : Int64))))), vS, vL ((own_rot ((own_rot t4.2.1 (13 : Int32)) ^^^ (t4.1 + t4.2.1)) (17 : Int32)) ^^^ (((t4.2.2.1 ^^^ (255 : Int64)) + (t4.2.2.2 ^^^ (0 : Int64))) + ((own_rot t4.2.1 (13 : Int32)) ^^^ (t4.1 + t4.2.1)))), vS, vL (own_rot (((t4.2.2.1 ^^^ (255 : Int64)) + (t4.2.2.2 ^^^ (0 : Int64))) + ((own_rot t4.2.1 (13 : Int32)) ^^^ (t4.1 + t4.2.1))) (32 : Int32)), vS, vL ((own_rot ((own_rot (t4.2.2.2 ^^^ (0 : Int64)) (16 : Int32)) ^^^ ((t4.2.2.1 ^^^ (255 : Int64)) + (t4.2.2.2 ^^^ (0 : Int64)))) (21 : Int32)) ^^^ ((own_rot (t4.1 + t4.2.1) (32 : Int32)) + ((own_rot (t4.2.2.2 ^^^ (0 : Int64)) (16 : Int32)) ^^^ ((t4.2.2.1 ^^^ (255 : Int64)) + (t4.2.2.2 ^^^ (0 : Int64)))))), vS, vI (u3 - u2), vI ((3 : Int32) + (1 : Int32)), vI (4 : Int32), vL (0 : Int64), vS, vI oa3, vI u3, vI ob3]) rfl (pc' := 320) rfl ?_
  refine own_lload X4 hx (hb hby d9_320) rfl (pc' := 322) rfl ?_
  refine own_lload X4 hx (hb hby d9_322) rfl (pc' := 324) rfl ?_
  refine own_lxor X4 hx (hb hby d9_324) (pc' := 325) rfl ?_
  refine own_lstore X4 hx (hb hby d9_325) (l' := #[vR ra, vR rb, vI u2, vI u3, vL (((own_rot (t4.1 + t4.2.1) (32 : Int32)) + ((own_rot (t4.2.2.2 ^^^ (0 : Int64)) (16 : Int32)) ^^^ ((t4.2.2.1 ^^^ (255 : Int64)) + (t4.2.2.2 ^^^ (0 : Int64))))) ^^^ (0 : Int64)), vS, vL ((own_rot ((own_rot t4.2.1 (13 : Int32)) ^^^ (t4.1 + t4.2.1)) (17 : Int32)) ^^^ (((t4.2.2.1 ^^^ (255 : Int64)) + (t4.2.2.2 ^^^ (0 : Int64))) + ((own_rot t4.2.1 (13 : Int32)) ^^^ (t4.1 + t4.2.1)))), vS, vL (own_rot (((t4.2.2.1 ^^^ (255 : Int64)) + (t4.2.2.2 ^^^ (0 : Int64))) + ((own_rot t4.2.1 (13 : Int32)) ^^^ (t4.1 + t4.2.1))) (32 : Int32)), vS, vL ((own_rot ((own_rot (t4.2.2.2 ^^^ (0 : Int64)) (16 : Int32)) ^^^ ((t4.2.2.1 ^^^ (255 : Int64)) + (t4.2.2.2 ^^^ (0 : Int64)))) (21 : Int32)) ^^^ ((own_rot (t4.1 + t4.2.1) (32 : Int32)) + ((own_rot (t4.2.2.2 ^^^ (0 : Int64)) (16 : Int32)) ^^^ ((t4.2.2.1 ^^^ (255 : Int64)) + (t4.2.2.2 ^^^ (0 : Int64)))))), vS, vI (u3 - u2), vI ((3 : Int32) + (1 : Int32)), vI (4 : Int32), vL (0 : Int64), vS, vI oa3, vI u3, vI ob3]) rfl (pc' := 327) rfl ?_
  refine own_iinc X4 hx (hb hby d9_327) rfl (z := (1 : Int32)) rfl (l' := #[vR ra, vR rb, vI u2, vI u3, vL (((own_rot (t4.1 + t4.2.1) (32 : Int32)) + ((own_rot (t4.2.2.2 ^^^ (0 : Int64)) (16 : Int32)) ^^^ ((t4.2.2.1 ^^^ (255 : Int64)) + (t4.2.2.2 ^^^ (0 : Int64))))) ^^^ (0 : Int64)), vS, vL ((own_rot ((own_rot t4.2.1 (13 : Int32)) ^^^ (t4.1 + t4.2.1)) (17 : Int32)) ^^^ (((t4.2.2.1 ^^^ (255 : Int64)) + (t4.2.2.2 ^^^ (0 : Int64))) + ((own_rot t4.2.1 (13 : Int32)) ^^^ (t4.1 + t4.2.1)))), vS, vL (own_rot (((t4.2.2.1 ^^^ (255 : Int64)) + (t4.2.2.2 ^^^ (0 : Int64))) + ((own_rot t4.2.1 (13 : Int32)) ^^^ (t4.1 + t4.2.1))) (32 : Int32)), vS, vL ((own_rot ((own_rot (t4.2.2.2 ^^^ (0 : Int64)) (16 : Int32)) ^^^ ((t4.2.2.1 ^^^ (255 : Int64)) + (t4.2.2.2 ^^^ (0 : Int64)))) (21 : Int32)) ^^^ ((own_rot (t4.1 + t4.2.1) (32 : Int32)) + ((own_rot (t4.2.2.2 ^^^ (0 : Int64)) (16 : Int32)) ^^^ ((t4.2.2.1 ^^^ (255 : Int64)) + (t4.2.2.2 ^^^ (0 : Int64)))))), vS, vI (u3 - u2), vI ((3 : Int32) + (1 : Int32)), vI ((4 : Int32) + (1 : Int32)), vL (0 : Int64), vS, vI oa3, vI u3, vI ob3]) rfl (pc' := 330) rfl ?_
  refine own_goto X4 hx (hb hby d9_330) (by decide) (pc' := 57) rfl ?_
  show own_G p e below s _ _ _ (T4.setTop (mkF m 57 #[vR ra, vR rb, vI u2, vI u3, vL ((own_comp (0 : Int64) (own_ff t4)).1), vS, vL ((own_comp (0 : Int64) (own_ff t4)).2.1), vS, vL ((own_comp (0 : Int64) (own_ff t4)).2.2.1), vS, vL ((own_comp (0 : Int64) (own_ff t4)).2.2.2), vS, vI (u3 - u2), vI ((3 : Int32) + (1 : Int32)), vI (5 : Int32), vL (0 : Int64), vS, vI oa3, vI u3, vI ob3] []))
  generalize ht5 : (own_comp (0 : Int64) (own_ff t4)) = t5
  refine own_iload X4 hx (hb hby d9_57) rfl (pc' := 59) rfl ?_
  refine own_iload X4 hx (hb hby d9_59) rfl (pc' := 61) rfl ?_
  refine own_iconst X4 hx (hb hby d9_61) (z := (3 : Int32)) rfl (pc' := 62) rfl ?_
  refine own_iadd X4 hx (hb hby d9_62) (pc' := 63) rfl ?_
  refine own_icmpF X4 hx (hb hby d9_63) (by decide) (pc' := 66) rfl ?_
  refine own_lconst X4 hx (hb hby d9_66) (z := (0 : Int64)) (by decide) (pc' := 67) rfl ?_
  refine own_lstore X4 hx (hb hby d9_67) (l' := #[vR ra, vR rb, vI u2, vI u3, vL t5.1, vS, vL t5.2.1, vS, vL t5.2.2.1, vS, vL t5.2.2.2, vS, vI (u3 - u2), vI ((3 : Int32) + (1 : Int32)), vI (5 : Int32), vL (0 : Int64), vS, vI oa3, vI u3, vI ob3]) rfl (pc' := 69) rfl ?_
  refine own_iload X4 hx (hb hby d9_69) rfl (pc' := 71) rfl ?_
  refine own_iload X4 hx (hb hby d9_71) rfl (pc' := 73) rfl ?_
  refine own_icmpT X4 hx (hb hby d9_73) (by decide) (by decide) (pc' := 164) rfl ?_
  refine own_iload X4 hx (hb hby d9_164) rfl (pc' := 166) rfl ?_
  refine own_iload X4 hx (hb hby d9_166) rfl (pc' := 168) rfl ?_
  refine own_icmpT X4 hx (hb hby d9_168) (by decide) (by decide) (pc' := 179) rfl ?_
  refine own_lload X4 hx (hb hby d9_179) rfl (pc' := 181) rfl ?_
  refine own_lload X4 hx (hb hby d9_181) rfl (pc' := 183) rfl ?_
  refine own_lxor X4 hx (hb hby d9_183) (pc' := 184) rfl ?_
  refine own_lstore X4 hx (hb hby d9_184) (l' := #[vR ra, vR rb, vI u2, vI u3, vL t5.1, vS, vL t5.2.1, vS, vL t5.2.2.1, vS, vL (t5.2.2.2 ^^^ (0 : Int64)), vS, vI (u3 - u2), vI ((3 : Int32) + (1 : Int32)), vI (5 : Int32), vL (0 : Int64), vS, vI oa3, vI u3, vI ob3]) rfl (pc' := 186) rfl ?_
  refine own_lload X4 hx (hb hby d9_186) rfl (pc' := 188) rfl ?_
  refine own_lload X4 hx (hb hby d9_188) rfl (pc' := 190) rfl ?_
  refine own_ladd X4 hx (hb hby d9_190) (pc' := 191) rfl ?_
  refine own_lstore X4 hx (hb hby d9_191) (l' := #[vR ra, vR rb, vI u2, vI u3, vL (t5.1 + t5.2.1), vS, vL t5.2.1, vS, vL t5.2.2.1, vS, vL (t5.2.2.2 ^^^ (0 : Int64)), vS, vI (u3 - u2), vI ((3 : Int32) + (1 : Int32)), vI (5 : Int32), vL (0 : Int64), vS, vI oa3, vI u3, vI ob3]) rfl (pc' := 193) rfl ?_
  refine own_lload X4 hx (hb hby d9_193) rfl (pc' := 195) rfl ?_
  refine own_bipush X4 hx (hb hby d9_195) (z := (13 : Int32)) (by decide) (pc' := 197) rfl ?_
  refine own_lshl X4 hx (hb hby d9_197) (pc' := 198) rfl ?_
  refine own_lload X4 hx (hb hby d9_198) rfl (pc' := 200) rfl ?_
  refine own_bipush X4 hx (hb hby d9_200) (z := (51 : Int32)) (by decide) (pc' := 202) rfl ?_
  refine own_lushr X4 hx (hb hby d9_202) (pc' := 203) rfl ?_
  refine own_lor X4 hx (hb hby d9_203) (pc' := 204) rfl ?_
  rw [own_r13]
  refine own_lstore X4 hx (hb hby d9_204) (l' := #[vR ra, vR rb, vI u2, vI u3, vL (t5.1 + t5.2.1), vS, vL (own_rot t5.2.1 (13 : Int32)), vS, vL t5.2.2.1, vS, vL (t5.2.2.2 ^^^ (0 : Int64)), vS, vI (u3 - u2), vI ((3 : Int32) + (1 : Int32)), vI (5 : Int32), vL (0 : Int64), vS, vI oa3, vI u3, vI ob3]) rfl (pc' := 206) rfl ?_
  refine own_lload X4 hx (hb hby d9_206) rfl (pc' := 208) rfl ?_
  refine own_lload X4 hx (hb hby d9_208) rfl (pc' := 210) rfl ?_
  refine own_lxor X4 hx (hb hby d9_210) (pc' := 211) rfl ?_
  refine own_lstore X4 hx (hb hby d9_211) (l' := #[vR ra, vR rb, vI u2, vI u3, vL (t5.1 + t5.2.1), vS, vL ((own_rot t5.2.1 (13 : Int32)) ^^^ (t5.1 + t5.2.1)), vS, vL t5.2.2.1, vS, vL (t5.2.2.2 ^^^ (0 : Int64)), vS, vI (u3 - u2), vI ((3 : Int32) + (1 : Int32)), vI (5 : Int32), vL (0 : Int64), vS, vI oa3, vI u3, vI ob3]) rfl (pc' := 213) rfl ?_
  refine own_lload X4 hx (hb hby d9_213) rfl (pc' := 215) rfl ?_
  refine own_bipush X4 hx (hb hby d9_215) (z := (32 : Int32)) (by decide) (pc' := 217) rfl ?_
  refine own_lshl X4 hx (hb hby d9_217) (pc' := 218) rfl ?_
  refine own_lload X4 hx (hb hby d9_218) rfl (pc' := 220) rfl ?_
  refine own_bipush X4 hx (hb hby d9_220) (z := (32 : Int32)) (by decide) (pc' := 222) rfl ?_
  refine own_lushr X4 hx (hb hby d9_222) (pc' := 223) rfl ?_
  refine own_lor X4 hx (hb hby d9_223) (pc' := 224) rfl ?_
  rw [own_r32]
  refine own_lstore X4 hx (hb hby d9_224) (l' := #[vR ra, vR rb, vI u2, vI u3, vL (own_rot (t5.1 + t5.2.1) (32 : Int32)), vS, vL ((own_rot t5.2.1 (13 : Int32)) ^^^ (t5.1 + t5.2.1)), vS, vL t5.2.2.1, vS, vL (t5.2.2.2 ^^^ (0 : Int64)), vS, vI (u3 - u2), vI ((3 : Int32) + (1 : Int32)), vI (5 : Int32), vL (0 : Int64), vS, vI oa3, vI u3, vI ob3]) rfl (pc' := 226) rfl ?_
  refine own_lload X4 hx (hb hby d9_226) rfl (pc' := 228) rfl ?_
  refine own_lload X4 hx (hb hby d9_228) rfl (pc' := 230) rfl ?_
  refine own_ladd X4 hx (hb hby d9_230) (pc' := 231) rfl ?_
  refine own_lstore X4 hx (hb hby d9_231) (l' := #[vR ra, vR rb, vI u2, vI u3, vL (own_rot (t5.1 + t5.2.1) (32 : Int32)), vS, vL ((own_rot t5.2.1 (13 : Int32)) ^^^ (t5.1 + t5.2.1)), vS, vL (t5.2.2.1 + (t5.2.2.2 ^^^ (0 : Int64))), vS, vL (t5.2.2.2 ^^^ (0 : Int64)), vS, vI (u3 - u2), vI ((3 : Int32) + (1 : Int32)), vI (5 : Int32), vL (0 : Int64), vS, vI oa3, vI u3, vI ob3]) rfl (pc' := 233) rfl ?_
  refine own_lload X4 hx (hb hby d9_233) rfl (pc' := 235) rfl ?_
  refine own_bipush X4 hx (hb hby d9_235) (z := (16 : Int32)) (by decide) (pc' := 237) rfl ?_
  refine own_lshl X4 hx (hb hby d9_237) (pc' := 238) rfl ?_
  refine own_lload X4 hx (hb hby d9_238) rfl (pc' := 240) rfl ?_
  refine own_bipush X4 hx (hb hby d9_240) (z := (48 : Int32)) (by decide) (pc' := 242) rfl ?_
  refine own_lushr X4 hx (hb hby d9_242) (pc' := 243) rfl ?_
  refine own_lor X4 hx (hb hby d9_243) (pc' := 244) rfl ?_
  rw [own_r16]
  refine own_lstore X4 hx (hb hby d9_244) (l' := #[vR ra, vR rb, vI u2, vI u3, vL (own_rot (t5.1 + t5.2.1) (32 : Int32)), vS, vL ((own_rot t5.2.1 (13 : Int32)) ^^^ (t5.1 + t5.2.1)), vS, vL (t5.2.2.1 + (t5.2.2.2 ^^^ (0 : Int64))), vS, vL (own_rot (t5.2.2.2 ^^^ (0 : Int64)) (16 : Int32)), vS, vI (u3 - u2), vI ((3 : Int32) + (1 : Int32)), vI (5 : Int32), vL (0 : Int64), vS, vI oa3, vI u3, vI ob3]) rfl (pc' := 246) rfl ?_
  refine own_lload X4 hx (hb hby d9_246) rfl (pc' := 248) rfl ?_
  refine own_lload X4 hx (hb hby d9_248) rfl (pc' := 250) rfl ?_
  refine own_lxor X4 hx (hb hby d9_250) (pc' := 251) rfl ?_
  refine own_lstore X4 hx (hb hby d9_251) (l' := #[vR ra, vR rb, vI u2, vI u3, vL (own_rot (t5.1 + t5.2.1) (32 : Int32)), vS, vL ((own_rot t5.2.1 (13 : Int32)) ^^^ (t5.1 + t5.2.1)), vS, vL (t5.2.2.1 + (t5.2.2.2 ^^^ (0 : Int64))), vS, vL ((own_rot (t5.2.2.2 ^^^ (0 : Int64)) (16 : Int32)) ^^^ (t5.2.2.1 + (t5.2.2.2 ^^^ (0 : Int64)))), vS, vI (u3 - u2), vI ((3 : Int32) + (1 : Int32)), vI (5 : Int32), vL (0 : Int64), vS, vI oa3, vI u3, vI ob3]) rfl (pc' := 253) rfl ?_
  refine own_lload X4 hx (hb hby d9_253) rfl (pc' := 255) rfl ?_
  refine own_lload X4 hx (hb hby d9_255) rfl (pc' := 257) rfl ?_
  refine own_ladd X4 hx (hb hby d9_257) (pc' := 258) rfl ?_
  refine own_lstore X4 hx (hb hby d9_258) (l' := #[vR ra, vR rb, vI u2, vI u3, vL ((own_rot (t5.1 + t5.2.1) (32 : Int32)) + ((own_rot (t5.2.2.2 ^^^ (0 : Int64)) (16 : Int32)) ^^^ (t5.2.2.1 + (t5.2.2.2 ^^^ (0 : Int64))))), vS, vL ((own_rot t5.2.1 (13 : Int32)) ^^^ (t5.1 + t5.2.1)), vS, vL (t5.2.2.1 + (t5.2.2.2 ^^^ (0 : Int64))), vS, vL ((own_rot (t5.2.2.2 ^^^ (0 : Int64)) (16 : Int32)) ^^^ (t5.2.2.1 + (t5.2.2.2 ^^^ (0 : Int64)))), vS, vI (u3 - u2), vI ((3 : Int32) + (1 : Int32)), vI (5 : Int32), vL (0 : Int64), vS, vI oa3, vI u3, vI ob3]) rfl (pc' := 260) rfl ?_
  refine own_lload X4 hx (hb hby d9_260) rfl (pc' := 262) rfl ?_
  refine own_bipush X4 hx (hb hby d9_262) (z := (21 : Int32)) (by decide) (pc' := 264) rfl ?_
  refine own_lshl X4 hx (hb hby d9_264) (pc' := 265) rfl ?_
  refine own_lload X4 hx (hb hby d9_265) rfl (pc' := 267) rfl ?_
  refine own_bipush X4 hx (hb hby d9_267) (z := (43 : Int32)) (by decide) (pc' := 269) rfl ?_
  refine own_lushr X4 hx (hb hby d9_269) (pc' := 270) rfl ?_
  refine own_lor X4 hx (hb hby d9_270) (pc' := 271) rfl ?_
  rw [own_r21]
  refine own_lstore X4 hx (hb hby d9_271) (l' := #[vR ra, vR rb, vI u2, vI u3, vL ((own_rot (t5.1 + t5.2.1) (32 : Int32)) + ((own_rot (t5.2.2.2 ^^^ (0 : Int64)) (16 : Int32)) ^^^ (t5.2.2.1 + (t5.2.2.2 ^^^ (0 : Int64))))), vS, vL ((own_rot t5.2.1 (13 : Int32)) ^^^ (t5.1 + t5.2.1)), vS, vL (t5.2.2.1 + (t5.2.2.2 ^^^ (0 : Int64))), vS, vL (own_rot ((own_rot (t5.2.2.2 ^^^ (0 : Int64)) (16 : Int32)) ^^^ (t5.2.2.1 + (t5.2.2.2 ^^^ (0 : Int64)))) (21 : Int32)), vS, vI (u3 - u2), vI ((3 : Int32) + (1 : Int32)), vI (5 : Int32), vL (0 : Int64), vS, vI oa3, vI u3, vI ob3]) rfl (pc' := 273) rfl ?_
  refine own_lload X4 hx (hb hby d9_273) rfl (pc' := 275) rfl ?_
  refine own_lload X4 hx (hb hby d9_275) rfl (pc' := 277) rfl ?_
  refine own_lxor X4 hx (hb hby d9_277) (pc' := 278) rfl ?_
  refine own_lstore X4 hx (hb hby d9_278) (l' := #[vR ra, vR rb, vI u2, vI u3, vL ((own_rot (t5.1 + t5.2.1) (32 : Int32)) + ((own_rot (t5.2.2.2 ^^^ (0 : Int64)) (16 : Int32)) ^^^ (t5.2.2.1 + (t5.2.2.2 ^^^ (0 : Int64))))), vS, vL ((own_rot t5.2.1 (13 : Int32)) ^^^ (t5.1 + t5.2.1)), vS, vL (t5.2.2.1 + (t5.2.2.2 ^^^ (0 : Int64))), vS, vL ((own_rot ((own_rot (t5.2.2.2 ^^^ (0 : Int64)) (16 : Int32)) ^^^ (t5.2.2.1 + (t5.2.2.2 ^^^ (0 : Int64)))) (21 : Int32)) ^^^ ((own_rot (t5.1 + t5.2.1) (32 : Int32)) + ((own_rot (t5.2.2.2 ^^^ (0 : Int64)) (16 : Int32)) ^^^ (t5.2.2.1 + (t5.2.2.2 ^^^ (0 : Int64)))))), vS, vI (u3 - u2), vI ((3 : Int32) + (1 : Int32)), vI (5 : Int32), vL (0 : Int64), vS, vI oa3, vI u3, vI ob3]) rfl (pc' := 280) rfl ?_
  refine own_lload X4 hx (hb hby d9_280) rfl (pc' := 282) rfl ?_
  refine own_lload X4 hx (hb hby d9_282) rfl (pc' := 284) rfl ?_
  refine own_ladd X4 hx (hb hby d9_284) (pc' := 285) rfl ?_
  refine own_lstore X4 hx (hb hby d9_285) (l' := #[vR ra, vR rb, vI u2, vI u3, vL ((own_rot (t5.1 + t5.2.1) (32 : Int32)) + ((own_rot (t5.2.2.2 ^^^ (0 : Int64)) (16 : Int32)) ^^^ (t5.2.2.1 + (t5.2.2.2 ^^^ (0 : Int64))))), vS, vL ((own_rot t5.2.1 (13 : Int32)) ^^^ (t5.1 + t5.2.1)), vS, vL ((t5.2.2.1 + (t5.2.2.2 ^^^ (0 : Int64))) + ((own_rot t5.2.1 (13 : Int32)) ^^^ (t5.1 + t5.2.1))), vS, vL ((own_rot ((own_rot (t5.2.2.2 ^^^ (0 : Int64)) (16 : Int32)) ^^^ (t5.2.2.1 + (t5.2.2.2 ^^^ (0 : Int64)))) (21 : Int32)) ^^^ ((own_rot (t5.1 + t5.2.1) (32 : Int32)) + ((own_rot (t5.2.2.2 ^^^ (0 : Int64)) (16 : Int32)) ^^^ (t5.2.2.1 + (t5.2.2.2 ^^^ (0 : Int64)))))), vS, vI (u3 - u2), vI ((3 : Int32) + (1 : Int32)), vI (5 : Int32), vL (0 : Int64), vS, vI oa3, vI u3, vI ob3]) rfl (pc' := 287) rfl ?_
  refine own_lload X4 hx (hb hby d9_287) rfl (pc' := 289) rfl ?_
  refine own_bipush X4 hx (hb hby d9_289) (z := (17 : Int32)) (by decide) (pc' := 291) rfl ?_
  refine own_lshl X4 hx (hb hby d9_291) (pc' := 292) rfl ?_
  refine own_lload X4 hx (hb hby d9_292) rfl (pc' := 294) rfl ?_
  refine own_bipush X4 hx (hb hby d9_294) (z := (47 : Int32)) (by decide) (pc' := 296) rfl ?_
  refine own_lushr X4 hx (hb hby d9_296) (pc' := 297) rfl ?_
  refine own_lor X4 hx (hb hby d9_297) (pc' := 298) rfl ?_
  rw [own_r17]
  refine own_lstore X4 hx (hb hby d9_298) (l' := #[vR ra, vR rb, vI u2, vI u3, vL ((own_rot (t5.1 + t5.2.1) (32 : Int32)) + ((own_rot (t5.2.2.2 ^^^ (0 : Int64)) (16 : Int32)) ^^^ (t5.2.2.1 + (t5.2.2.2 ^^^ (0 : Int64))))), vS, vL (own_rot ((own_rot t5.2.1 (13 : Int32)) ^^^ (t5.1 + t5.2.1)) (17 : Int32)), vS, vL ((t5.2.2.1 + (t5.2.2.2 ^^^ (0 : Int64))) + ((own_rot t5.2.1 (13 : Int32)) ^^^ (t5.1 + t5.2.1))), vS, vL ((own_rot ((own_rot (t5.2.2.2 ^^^ (0 : Int64)) (16 : Int32)) ^^^ (t5.2.2.1 + (t5.2.2.2 ^^^ (0 : Int64)))) (21 : Int32)) ^^^ ((own_rot (t5.1 + t5.2.1) (32 : Int32)) + ((own_rot (t5.2.2.2 ^^^ (0 : Int64)) (16 : Int32)) ^^^ (t5.2.2.1 + (t5.2.2.2 ^^^ (0 : Int64)))))), vS, vI (u3 - u2), vI ((3 : Int32) + (1 : Int32)), vI (5 : Int32), vL (0 : Int64), vS, vI oa3, vI u3, vI ob3]) rfl (pc' := 300) rfl ?_
  refine own_lload X4 hx (hb hby d9_300) rfl (pc' := 302) rfl ?_
  refine own_lload X4 hx (hb hby d9_302) rfl (pc' := 304) rfl ?_
  refine own_lxor X4 hx (hb hby d9_304) (pc' := 305) rfl ?_
  refine own_lstore X4 hx (hb hby d9_305) (l' := #[vR ra, vR rb, vI u2, vI u3, vL ((own_rot (t5.1 + t5.2.1) (32 : Int32)) + ((own_rot (t5.2.2.2 ^^^ (0 : Int64)) (16 : Int32)) ^^^ (t5.2.2.1 + (t5.2.2.2 ^^^ (0 : Int64))))), vS, vL ((own_rot ((own_rot t5.2.1 (13 : Int32)) ^^^ (t5.1 + t5.2.1)) (17 : Int32)) ^^^ ((t5.2.2.1 + (t5.2.2.2 ^^^ (0 : Int64))) + ((own_rot t5.2.1 (13 : Int32)) ^^^ (t5.1 + t5.2.1)))), vS, vL ((t5.2.2.1 + (t5.2.2.2 ^^^ (0 : Int64))) + ((own_rot t5.2.1 (13 : Int32)) ^^^ (t5.1 + t5.2.1))), vS, vL ((own_rot ((own_rot (t5.2.2.2 ^^^ (0 : Int64)) (16 : Int32)) ^^^ (t5.2.2.1 + (t5.2.2.2 ^^^ (0 : Int64)))) (21 : Int32)) ^^^ ((own_rot (t5.1 + t5.2.1) (32 : Int32)) + ((own_rot (t5.2.2.2 ^^^ (0 : Int64)) (16 : Int32)) ^^^ (t5.2.2.1 + (t5.2.2.2 ^^^ (0 : Int64)))))), vS, vI (u3 - u2), vI ((3 : Int32) + (1 : Int32)), vI (5 : Int32), vL (0 : Int64), vS, vI oa3, vI u3, vI ob3]) rfl (pc' := 307) rfl ?_
  refine own_lload X4 hx (hb hby d9_307) rfl (pc' := 309) rfl ?_
  refine own_bipush X4 hx (hb hby d9_309) (z := (32 : Int32)) (by decide) (pc' := 311) rfl ?_
  refine own_lshl X4 hx (hb hby d9_311) (pc' := 312) rfl ?_
  refine own_lload X4 hx (hb hby d9_312) rfl (pc' := 314) rfl ?_
  refine own_bipush X4 hx (hb hby d9_314) (z := (32 : Int32)) (by decide) (pc' := 316) rfl ?_
  refine own_lushr X4 hx (hb hby d9_316) (pc' := 317) rfl ?_
  refine own_lor X4 hx (hb hby d9_317) (pc' := 318) rfl ?_
  rw [own_r32]
  refine own_lstore X4 hx (hb hby d9_318) (l' := #[vR ra, vR rb, vI u2, vI u3, vL ((own_rot (t5.1 + t5.2.1) (32 : Int32)) + ((own_rot (t5.2.2.2 ^^^ (0 : Int64)) (16 : Int32)) ^^^ (t5.2.2.1 + (t5.2.2.2 ^^^ (0 : Int64))))), vS, vL ((own_rot ((own_rot t5.2.1 (13 : Int32)) ^^^ (t5.1 + t5.2.1)) (17 : Int32)) ^^^ ((t5.2.2.1 + (t5.2.2.2 ^^^ (0 : Int64))) + ((own_rot t5.2.1 (13 : Int32)) ^^^ (t5.1 + t5.2.1)))), vS, vL (own_rot ((t5.2.2.1 + (t5.2.2.2 ^^^ (0 : Int64))) + ((own_rot t5.2.1 (13 : Int32)) ^^^ (t5.1 + t5.2.1))) (32 : Int32)), vS, vL ((own_rot ((own_rot (t5.2.2.2 ^^^ (0 : Int64)) (16 : Int32)) ^^^ (t5.2.2.1 + (t5.2.2.2 ^^^ (0 : Int64)))) (21 : Int32)) ^^^ ((own_rot (t5.1 + t5.2.1) (32 : Int32)) + ((own_rot (t5.2.2.2 ^^^ (0 : Int64)) (16 : Int32)) ^^^ (t5.2.2.1 + (t5.2.2.2 ^^^ (0 : Int64)))))), vS, vI (u3 - u2), vI ((3 : Int32) + (1 : Int32)), vI (5 : Int32), vL (0 : Int64), vS, vI oa3, vI u3, vI ob3]) rfl (pc' := 320) rfl ?_
  refine own_lload X4 hx (hb hby d9_320) rfl (pc' := 322) rfl ?_
  refine own_lload X4 hx (hb hby d9_322) rfl (pc' := 324) rfl ?_
  refine own_lxor X4 hx (hb hby d9_324) (pc' := 325) rfl ?_
  refine own_lstore X4 hx (hb hby d9_325) (l' := #[vR ra, vR rb, vI u2, vI u3, vL (((own_rot (t5.1 + t5.2.1) (32 : Int32)) + ((own_rot (t5.2.2.2 ^^^ (0 : Int64)) (16 : Int32)) ^^^ (t5.2.2.1 + (t5.2.2.2 ^^^ (0 : Int64))))) ^^^ (0 : Int64)), vS, vL ((own_rot ((own_rot t5.2.1 (13 : Int32)) ^^^ (t5.1 + t5.2.1)) (17 : Int32)) ^^^ ((t5.2.2.1 + (t5.2.2.2 ^^^ (0 : Int64))) + ((own_rot t5.2.1 (13 : Int32)) ^^^ (t5.1 + t5.2.1)))), vS, vL (own_rot ((t5.2.2.1 + (t5.2.2.2 ^^^ (0 : Int64))) + ((own_rot t5.2.1 (13 : Int32)) ^^^ (t5.1 + t5.2.1))) (32 : Int32)), vS, vL ((own_rot ((own_rot (t5.2.2.2 ^^^ (0 : Int64)) (16 : Int32)) ^^^ (t5.2.2.1 + (t5.2.2.2 ^^^ (0 : Int64)))) (21 : Int32)) ^^^ ((own_rot (t5.1 + t5.2.1) (32 : Int32)) + ((own_rot (t5.2.2.2 ^^^ (0 : Int64)) (16 : Int32)) ^^^ (t5.2.2.1 + (t5.2.2.2 ^^^ (0 : Int64)))))), vS, vI (u3 - u2), vI ((3 : Int32) + (1 : Int32)), vI (5 : Int32), vL (0 : Int64), vS, vI oa3, vI u3, vI ob3]) rfl (pc' := 327) rfl ?_
  refine own_iinc X4 hx (hb hby d9_327) rfl (z := (1 : Int32)) rfl (l' := #[vR ra, vR rb, vI u2, vI u3, vL (((own_rot (t5.1 + t5.2.1) (32 : Int32)) + ((own_rot (t5.2.2.2 ^^^ (0 : Int64)) (16 : Int32)) ^^^ (t5.2.2.1 + (t5.2.2.2 ^^^ (0 : Int64))))) ^^^ (0 : Int64)), vS, vL ((own_rot ((own_rot t5.2.1 (13 : Int32)) ^^^ (t5.1 + t5.2.1)) (17 : Int32)) ^^^ ((t5.2.2.1 + (t5.2.2.2 ^^^ (0 : Int64))) + ((own_rot t5.2.1 (13 : Int32)) ^^^ (t5.1 + t5.2.1)))), vS, vL (own_rot ((t5.2.2.1 + (t5.2.2.2 ^^^ (0 : Int64))) + ((own_rot t5.2.1 (13 : Int32)) ^^^ (t5.1 + t5.2.1))) (32 : Int32)), vS, vL ((own_rot ((own_rot (t5.2.2.2 ^^^ (0 : Int64)) (16 : Int32)) ^^^ (t5.2.2.1 + (t5.2.2.2 ^^^ (0 : Int64)))) (21 : Int32)) ^^^ ((own_rot (t5.1 + t5.2.1) (32 : Int32)) + ((own_rot (t5.2.2.2 ^^^ (0 : Int64)) (16 : Int32)) ^^^ (t5.2.2.1 + (t5.2.2.2 ^^^ (0 : Int64)))))), vS, vI (u3 - u2), vI ((3 : Int32) + (1 : Int32)), vI ((5 : Int32) + (1 : Int32)), vL (0 : Int64), vS, vI oa3, vI u3, vI ob3]) rfl (pc' := 330) rfl ?_
  refine own_goto X4 hx (hb hby d9_330) (by decide) (pc' := 57) rfl ?_
  show own_G p e below s _ _ _ (T4.setTop (mkF m 57 #[vR ra, vR rb, vI u2, vI u3, vL ((own_comp (0 : Int64) t5).1), vS, vL ((own_comp (0 : Int64) t5).2.1), vS, vL ((own_comp (0 : Int64) t5).2.2.1), vS, vL ((own_comp (0 : Int64) t5).2.2.2), vS, vI (u3 - u2), vI ((3 : Int32) + (1 : Int32)), vI (6 : Int32), vL (0 : Int64), vS, vI oa3, vI u3, vI ob3] []))
  generalize ht6 : (own_comp (0 : Int64) t5) = t6
  refine own_iload X4 hx (hb hby d9_57) rfl (pc' := 59) rfl ?_
  refine own_iload X4 hx (hb hby d9_59) rfl (pc' := 61) rfl ?_
  refine own_iconst X4 hx (hb hby d9_61) (z := (3 : Int32)) rfl (pc' := 62) rfl ?_
  refine own_iadd X4 hx (hb hby d9_62) (pc' := 63) rfl ?_
  refine own_icmpF X4 hx (hb hby d9_63) (by decide) (pc' := 66) rfl ?_
  refine own_lconst X4 hx (hb hby d9_66) (z := (0 : Int64)) (by decide) (pc' := 67) rfl ?_
  refine own_lstore X4 hx (hb hby d9_67) (l' := #[vR ra, vR rb, vI u2, vI u3, vL t6.1, vS, vL t6.2.1, vS, vL t6.2.2.1, vS, vL t6.2.2.2, vS, vI (u3 - u2), vI ((3 : Int32) + (1 : Int32)), vI (6 : Int32), vL (0 : Int64), vS, vI oa3, vI u3, vI ob3]) rfl (pc' := 69) rfl ?_
  refine own_iload X4 hx (hb hby d9_69) rfl (pc' := 71) rfl ?_
  refine own_iload X4 hx (hb hby d9_71) rfl (pc' := 73) rfl ?_
  refine own_icmpT X4 hx (hb hby d9_73) (by decide) (by decide) (pc' := 164) rfl ?_
  refine own_iload X4 hx (hb hby d9_164) rfl (pc' := 166) rfl ?_
  refine own_iload X4 hx (hb hby d9_166) rfl (pc' := 168) rfl ?_
  refine own_icmpT X4 hx (hb hby d9_168) (by decide) (by decide) (pc' := 179) rfl ?_
  refine own_lload X4 hx (hb hby d9_179) rfl (pc' := 181) rfl ?_
  refine own_lload X4 hx (hb hby d9_181) rfl (pc' := 183) rfl ?_
  refine own_lxor X4 hx (hb hby d9_183) (pc' := 184) rfl ?_
  refine own_lstore X4 hx (hb hby d9_184) (l' := #[vR ra, vR rb, vI u2, vI u3, vL t6.1, vS, vL t6.2.1, vS, vL t6.2.2.1, vS, vL (t6.2.2.2 ^^^ (0 : Int64)), vS, vI (u3 - u2), vI ((3 : Int32) + (1 : Int32)), vI (6 : Int32), vL (0 : Int64), vS, vI oa3, vI u3, vI ob3]) rfl (pc' := 186) rfl ?_
  refine own_lload X4 hx (hb hby d9_186) rfl (pc' := 188) rfl ?_
  refine own_lload X4 hx (hb hby d9_188) rfl (pc' := 190) rfl ?_
  refine own_ladd X4 hx (hb hby d9_190) (pc' := 191) rfl ?_
  refine own_lstore X4 hx (hb hby d9_191) (l' := #[vR ra, vR rb, vI u2, vI u3, vL (t6.1 + t6.2.1), vS, vL t6.2.1, vS, vL t6.2.2.1, vS, vL (t6.2.2.2 ^^^ (0 : Int64)), vS, vI (u3 - u2), vI ((3 : Int32) + (1 : Int32)), vI (6 : Int32), vL (0 : Int64), vS, vI oa3, vI u3, vI ob3]) rfl (pc' := 193) rfl ?_
  refine own_lload X4 hx (hb hby d9_193) rfl (pc' := 195) rfl ?_
  refine own_bipush X4 hx (hb hby d9_195) (z := (13 : Int32)) (by decide) (pc' := 197) rfl ?_
  refine own_lshl X4 hx (hb hby d9_197) (pc' := 198) rfl ?_
  refine own_lload X4 hx (hb hby d9_198) rfl (pc' := 200) rfl ?_
  refine own_bipush X4 hx (hb hby d9_200) (z := (51 : Int32)) (by decide) (pc' := 202) rfl ?_
  refine own_lushr X4 hx (hb hby d9_202) (pc' := 203) rfl ?_
  refine own_lor X4 hx (hb hby d9_203) (pc' := 204) rfl ?_
  rw [own_r13]
  refine own_lstore X4 hx (hb hby d9_204) (l' := #[vR ra, vR rb, vI u2, vI u3, vL (t6.1 + t6.2.1), vS, vL (own_rot t6.2.1 (13 : Int32)), vS, vL t6.2.2.1, vS, vL (t6.2.2.2 ^^^ (0 : Int64)), vS, vI (u3 - u2), vI ((3 : Int32) + (1 : Int32)), vI (6 : Int32), vL (0 : Int64), vS, vI oa3, vI u3, vI ob3]) rfl (pc' := 206) rfl ?_
  refine own_lload X4 hx (hb hby d9_206) rfl (pc' := 208) rfl ?_
  refine own_lload X4 hx (hb hby d9_208) rfl (pc' := 210) rfl ?_
  refine own_lxor X4 hx (hb hby d9_210) (pc' := 211) rfl ?_
  refine own_lstore X4 hx (hb hby d9_211) (l' := #[vR ra, vR rb, vI u2, vI u3, vL (t6.1 + t6.2.1), vS, vL ((own_rot t6.2.1 (13 : Int32)) ^^^ (t6.1 + t6.2.1)), vS, vL t6.2.2.1, vS, vL (t6.2.2.2 ^^^ (0 : Int64)), vS, vI (u3 - u2), vI ((3 : Int32) + (1 : Int32)), vI (6 : Int32), vL (0 : Int64), vS, vI oa3, vI u3, vI ob3]) rfl (pc' := 213) rfl ?_
  refine own_lload X4 hx (hb hby d9_213) rfl (pc' := 215) rfl ?_
  refine own_bipush X4 hx (hb hby d9_215) (z := (32 : Int32)) (by decide) (pc' := 217) rfl ?_
  refine own_lshl X4 hx (hb hby d9_217) (pc' := 218) rfl ?_
  refine own_lload X4 hx (hb hby d9_218) rfl (pc' := 220) rfl ?_
  refine own_bipush X4 hx (hb hby d9_220) (z := (32 : Int32)) (by decide) (pc' := 222) rfl ?_
  refine own_lushr X4 hx (hb hby d9_222) (pc' := 223) rfl ?_
  refine own_lor X4 hx (hb hby d9_223) (pc' := 224) rfl ?_
  rw [own_r32]
  refine own_lstore X4 hx (hb hby d9_224) (l' := #[vR ra, vR rb, vI u2, vI u3, vL (own_rot (t6.1 + t6.2.1) (32 : Int32)), vS, vL ((own_rot t6.2.1 (13 : Int32)) ^^^ (t6.1 + t6.2.1)), vS, vL t6.2.2.1, vS, vL (t6.2.2.2 ^^^ (0 : Int64)), vS, vI (u3 - u2), vI ((3 : Int32) + (1 : Int32)), vI (6 : Int32), vL (0 : Int64), vS, vI oa3, vI u3, vI ob3]) rfl (pc' := 226) rfl ?_
  refine own_lload X4 hx (hb hby d9_226) rfl (pc' := 228) rfl ?_
  refine own_lload X4 hx (hb hby d9_228) rfl (pc' := 230) rfl ?_
  refine own_ladd X4 hx (hb hby d9_230) (pc' := 231) rfl ?_
  refine own_lstore X4 hx (hb hby d9_231) (l' := #[vR ra, vR rb, vI u2, vI u3, vL (own_rot (t6.1 + t6.2.1) (32 : Int32)), vS, vL ((own_rot t6.2.1 (13 : Int32)) ^^^ (t6.1 + t6.2.1)), vS, vL (t6.2.2.1 + (t6.2.2.2 ^^^ (0 : Int64))), vS, vL (t6.2.2.2 ^^^ (0 : Int64)), vS, vI (u3 - u2), vI ((3 : Int32) + (1 : Int32)), vI (6 : Int32), vL (0 : Int64), vS, vI oa3, vI u3, vI ob3]) rfl (pc' := 233) rfl ?_
  refine own_lload X4 hx (hb hby d9_233) rfl (pc' := 235) rfl ?_
  refine own_bipush X4 hx (hb hby d9_235) (z := (16 : Int32)) (by decide) (pc' := 237) rfl ?_
  refine own_lshl X4 hx (hb hby d9_237) (pc' := 238) rfl ?_
  refine own_lload X4 hx (hb hby d9_238) rfl (pc' := 240) rfl ?_
  refine own_bipush X4 hx (hb hby d9_240) (z := (48 : Int32)) (by decide) (pc' := 242) rfl ?_
  refine own_lushr X4 hx (hb hby d9_242) (pc' := 243) rfl ?_
  refine own_lor X4 hx (hb hby d9_243) (pc' := 244) rfl ?_
  rw [own_r16]
  refine own_lstore X4 hx (hb hby d9_244) (l' := #[vR ra, vR rb, vI u2, vI u3, vL (own_rot (t6.1 + t6.2.1) (32 : Int32)), vS, vL ((own_rot t6.2.1 (13 : Int32)) ^^^ (t6.1 + t6.2.1)), vS, vL (t6.2.2.1 + (t6.2.2.2 ^^^ (0 : Int64))), vS, vL (own_rot (t6.2.2.2 ^^^ (0 : Int64)) (16 : Int32)), vS, vI (u3 - u2), vI ((3 : Int32) + (1 : Int32)), vI (6 : Int32), vL (0 : Int64), vS, vI oa3, vI u3, vI ob3]) rfl (pc' := 246) rfl ?_
  refine own_lload X4 hx (hb hby d9_246) rfl (pc' := 248) rfl ?_
  refine own_lload X4 hx (hb hby d9_248) rfl (pc' := 250) rfl ?_
  refine own_lxor X4 hx (hb hby d9_250) (pc' := 251) rfl ?_
  refine own_lstore X4 hx (hb hby d9_251) (l' := #[vR ra, vR rb, vI u2, vI u3, vL (own_rot (t6.1 + t6.2.1) (32 : Int32)), vS, vL ((own_rot t6.2.1 (13 : Int32)) ^^^ (t6.1 + t6.2.1)), vS, vL (t6.2.2.1 + (t6.2.2.2 ^^^ (0 : Int64))), vS, vL ((own_rot (t6.2.2.2 ^^^ (0 : Int64)) (16 : Int32)) ^^^ (t6.2.2.1 + (t6.2.2.2 ^^^ (0 : Int64)))), vS, vI (u3 - u2), vI ((3 : Int32) + (1 : Int32)), vI (6 : Int32), vL (0 : Int64), vS, vI oa3, vI u3, vI ob3]) rfl (pc' := 253) rfl ?_
  refine own_lload X4 hx (hb hby d9_253) rfl (pc' := 255) rfl ?_
  refine own_lload X4 hx (hb hby d9_255) rfl (pc' := 257) rfl ?_
  refine own_ladd X4 hx (hb hby d9_257) (pc' := 258) rfl ?_
  refine own_lstore X4 hx (hb hby d9_258) (l' := #[vR ra, vR rb, vI u2, vI u3, vL ((own_rot (t6.1 + t6.2.1) (32 : Int32)) + ((own_rot (t6.2.2.2 ^^^ (0 : Int64)) (16 : Int32)) ^^^ (t6.2.2.1 + (t6.2.2.2 ^^^ (0 : Int64))))), vS, vL ((own_rot t6.2.1 (13 : Int32)) ^^^ (t6.1 + t6.2.1)), vS, vL (t6.2.2.1 + (t6.2.2.2 ^^^ (0 : Int64))), vS, vL ((own_rot (t6.2.2.2 ^^^ (0 : Int64)) (16 : Int32)) ^^^ (t6.2.2.1 + (t6.2.2.2 ^^^ (0 : Int64)))), vS, vI (u3 - u2), vI ((3 : Int32) + (1 : Int32)), vI (6 : Int32), vL (0 : Int64), vS, vI oa3, vI u3, vI ob3]) rfl (pc' := 260) rfl ?_
  refine own_lload X4 hx (hb hby d9_260) rfl (pc' := 262) rfl ?_
  refine own_bipush X4 hx (hb hby d9_262) (z := (21 : Int32)) (by decide) (pc' := 264) rfl ?_
  refine own_lshl X4 hx (hb hby d9_264) (pc' := 265) rfl ?_
  refine own_lload X4 hx (hb hby d9_265) rfl (pc' := 267) rfl ?_
  refine own_bipush X4 hx (hb hby d9_267) (z := (43 : Int32)) (by decide) (pc' := 269) rfl ?_
  refine own_lushr X4 hx (hb hby d9_269) (pc' := 270) rfl ?_
  refine own_lor X4 hx (hb hby d9_270) (pc' := 271) rfl ?_
  rw [own_r21]
  refine own_lstore X4 hx (hb hby d9_271) (l' := #[vR ra, vR rb, vI u2, vI u3, vL ((own_rot (t6.1 + t6.2.1) (32 : Int32)) + ((own_rot (t6.2.2.2 ^^^ (0 : Int64)) (16 : Int32)) ^^^ (t6.2.2.1 + (t6.2.2.2 ^^^ (0 : Int64))))), vS, vL ((own_rot t6.2.1 (13 : Int32)) ^^^ (t6.1 + t6.2.1)), vS, vL (t6.2.2.1 + (t6.2.2.2 ^^^ (0 : Int64))), vS, vL (own_rot ((own_rot (t6.2.2.2 ^^^ (0 : Int64)) (16 : Int32)) ^^^ (t6.2.2.1 + (t6.2.2.2 ^^^ (0 : Int64)))) (21 : Int32)), vS, vI (u3 - u2), vI ((3 : Int32) + (1 : Int32)), vI (6 : Int32), vL (0 : Int64), vS, vI oa3, vI u3, vI ob3]) rfl (pc' := 273) rfl ?_
  refine own_lload X4 hx (hb hby d9_273) rfl (pc' := 275) rfl ?_
  refine own_lload X4 hx (hb hby d9_275) rfl (pc' := 277) rfl ?_
  refine own_lxor X4 hx (hb hby d9_277) (pc' := 278) rfl ?_
  refine own_lstore X4 hx (hb hby d9_278) (l' := #[vR ra, vR rb, vI u2, vI u3, vL ((own_rot (t6.1 + t6.2.1) (32 : Int32)) + ((own_rot (t6.2.2.2 ^^^ (0 : Int64)) (16 : Int32)) ^^^ (t6.2.2.1 + (t6.2.2.2 ^^^ (0 : Int64))))), vS, vL ((own_rot t6.2.1 (13 : Int32)) ^^^ (t6.1 + t6.2.1)), vS, vL (t6.2.2.1 + (t6.2.2.2 ^^^ (0 : Int64))), vS, vL ((own_rot ((own_rot (t6.2.2.2 ^^^ (0 : Int64)) (16 : Int32)) ^^^ (t6.2.2.1 + (t6.2.2.2 ^^^ (0 : Int64)))) (21 : Int32)) ^^^ ((own_rot (t6.1 + t6.2.1) (32 : Int32)) + ((own_rot (t6.2.2.2 ^^^ (0 : Int64)) (16 : Int32)) ^^^ (t6.2.2.1 + (t6.2.2.2 ^^^ (0 : Int64)))))), vS, vI (u3 - u2), vI ((3 : Int32) + (1 : Int32)), vI (6 : Int32), vL (0 : Int64), vS, vI oa3, vI u3, vI ob3]) rfl (pc' := 280) rfl ?_
  refine own_lload X4 hx (hb hby d9_280) rfl (pc' := 282) rfl ?_
  refine own_lload X4 hx (hb hby d9_282) rfl (pc' := 284) rfl ?_
  refine own_ladd X4 hx (hb hby d9_284) (pc' := 285) rfl ?_
  refine own_lstore X4 hx (hb hby d9_285) (l' := #[vR ra, vR rb, vI u2, vI u3, vL ((own_rot (t6.1 + t6.2.1) (32 : Int32)) + ((own_rot (t6.2.2.2 ^^^ (0 : Int64)) (16 : Int32)) ^^^ (t6.2.2.1 + (t6.2.2.2 ^^^ (0 : Int64))))), vS, vL ((own_rot t6.2.1 (13 : Int32)) ^^^ (t6.1 + t6.2.1)), vS, vL ((t6.2.2.1 + (t6.2.2.2 ^^^ (0 : Int64))) + ((own_rot t6.2.1 (13 : Int32)) ^^^ (t6.1 + t6.2.1))), vS, vL ((own_rot ((own_rot (t6.2.2.2 ^^^ (0 : Int64)) (16 : Int32)) ^^^ (t6.2.2.1 + (t6.2.2.2 ^^^ (0 : Int64)))) (21 : Int32)) ^^^ ((own_rot (t6.1 + t6.2.1) (32 : Int32)) + ((own_rot (t6.2.2.2 ^^^ (0 : Int64)) (16 : Int32)) ^^^ (t6.2.2.1 + (t6.2.2.2 ^^^ (0 : Int64)))))), vS, vI (u3 - u2), vI ((3 : Int32) + (1 : Int32)), vI (6 : Int32), vL (0 : Int64), vS, vI oa3, vI u3, vI ob3]) rfl (pc' := 287) rfl ?_
  refine own_lload X4 hx (hb hby d9_287) rfl (pc' := 289) rfl ?_
  refine own_bipush X4 hx (hb hby d9_289) (z := (17 : Int32)) (by decide) (pc' := 291) rfl ?_
  refine own_lshl X4 hx (hb hby d9_291) (pc' := 292) rfl ?_
  refine own_lload X4 hx (hb hby d9_292) rfl (pc' := 294) rfl ?_
  refine own_bipush X4 hx (hb hby d9_294) (z := (47 : Int32)) (by decide) (pc' := 296) rfl ?_
  refine own_lushr X4 hx (hb hby d9_296) (pc' := 297) rfl ?_
  refine own_lor X4 hx (hb hby d9_297) (pc' := 298) rfl ?_
  rw [own_r17]
  refine own_lstore X4 hx (hb hby d9_298) (l' := #[vR ra, vR rb, vI u2, vI u3, vL ((own_rot (t6.1 + t6.2.1) (32 : Int32)) + ((own_rot (t6.2.2.2 ^^^ (0 : Int64)) (16 : Int32)) ^^^ (t6.2.2.1 + (t6.2.2.2 ^^^ (0 : Int64))))), vS, vL (own_rot ((own_rot t6.2.1 (13 : Int32)) ^^^ (t6.1 + t6.2.1)) (17 : Int32)), vS, vL ((t6.2.2.1 + (t6.2.2.2 ^^^ (0 : Int64))) + ((own_rot t6.2.1 (13 : Int32)) ^^^ (t6.1 + t6.2.1))), vS, vL ((own_rot ((own_rot (t6.2.2.2 ^^^ (0 : Int64)) (16 : Int32)) ^^^ (t6.2.2.1 + (t6.2.2.2 ^^^ (0 : Int64)))) (21 : Int32)) ^^^ ((own_rot (t6.1 + t6.2.1) (32 : Int32)) + ((own_rot (t6.2.2.2 ^^^ (0 : Int64)) (16 : Int32)) ^^^ (t6.2.2.1 + (t6.2.2.2 ^^^ (0 : Int64)))))), vS, vI (u3 - u2), vI ((3 : Int32) + (1 : Int32)), vI (6 : Int32), vL (0 : Int64), vS, vI oa3, vI u3, vI ob3]) rfl (pc' := 300) rfl ?_
  refine own_lload X4 hx (hb hby d9_300) rfl (pc' := 302) rfl ?_
  refine own_lload X4 hx (hb hby d9_302) rfl (pc' := 304) rfl ?_
  refine own_lxor X4 hx (hb hby d9_304) (pc' := 305) rfl ?_
  refine own_lstore X4 hx (hb hby d9_305) (l' := #[vR ra, vR rb, vI u2, vI u3, vL ((own_rot (t6.1 + t6.2.1) (32 : Int32)) + ((own_rot (t6.2.2.2 ^^^ (0 : Int64)) (16 : Int32)) ^^^ (t6.2.2.1 + (t6.2.2.2 ^^^ (0 : Int64))))), vS, vL ((own_rot ((own_rot t6.2.1 (13 : Int32)) ^^^ (t6.1 + t6.2.1)) (17 : Int32)) ^^^ ((t6.2.2.1 + (t6.2.2.2 ^^^ (0 : Int64))) + ((own_rot t6.2.1 (13 : Int32)) ^^^ (t6.1 + t6.2.1)))), vS, vL ((t6.2.2.1 + (t6.2.2.2 ^^^ (0 : Int64))) + ((own_rot t6.2.1 (13 : Int32)) ^^^ (t6.1 + t6.2.1))), vS, vL ((own_rot ((own_rot (t6.2.2.2 ^^^ (0 : Int64)) (16 : Int32)) ^^^ (t6.2.2.1 + (t6.2.2.2 ^^^ (0 : Int64)))) (21 : Int32)) ^^^ ((own_rot (t6.1 + t6.2.1) (32 : Int32)) + ((own_rot (t6.2.2.2 ^^^ (0 : Int64)) (16 : Int32)) ^^^ (t6.2.2.1 + (t6.2.2.2 ^^^ (0 : Int64)))))), vS, vI (u3 - u2), vI ((3 : Int32) + (1 : Int32)), vI (6 : Int32), vL (0 : Int64), vS, vI oa3, vI u3, vI ob3]) rfl (pc' := 307) rfl ?_
  refine own_lload X4 hx (hb hby d9_307) rfl (pc' := 309) rfl ?_
  refine own_bipush X4 hx (hb hby d9_309) (z := (32 : Int32)) (by decide) (pc' := 311) rfl ?_
  refine own_lshl X4 hx (hb hby d9_311) (pc' := 312) rfl ?_
  refine own_lload X4 hx (hb hby d9_312) rfl (pc' := 314) rfl ?_
  refine own_bipush X4 hx (hb hby d9_314) (z := (32 : Int32)) (by decide) (pc' := 316) rfl ?_
  refine own_lushr X4 hx (hb hby d9_316) (pc' := 317) rfl ?_
  refine own_lor X4 hx (hb hby d9_317) (pc' := 318) rfl ?_
  rw [own_r32]
  refine own_lstore X4 hx (hb hby d9_318) (l' := #[vR ra, vR rb, vI u2, vI u3, vL ((own_rot (t6.1 + t6.2.1) (32 : Int32)) + ((own_rot (t6.2.2.2 ^^^ (0 : Int64)) (16 : Int32)) ^^^ (t6.2.2.1 + (t6.2.2.2 ^^^ (0 : Int64))))), vS, vL ((own_rot ((own_rot t6.2.1 (13 : Int32)) ^^^ (t6.1 + t6.2.1)) (17 : Int32)) ^^^ ((t6.2.2.1 + (t6.2.2.2 ^^^ (0 : Int64))) + ((own_rot t6.2.1 (13 : Int32)) ^^^ (t6.1 + t6.2.1)))), vS, vL (own_rot ((t6.2.2.1 + (t6.2.2.2 ^^^ (0 : Int64))) + ((own_rot t6.2.1 (13 : Int32)) ^^^ (t6.1 + t6.2.1))) (32 : Int32)), vS, vL ((own_rot ((own_rot (t6.2.2.2 ^^^ (0 : Int64)) (16 : Int32)) ^^^ (t6.2.2.1 + (t6.2.2.2 ^^^ (0 : Int64)))) (21 : Int32)) ^^^ ((own_rot (t6.1 + t6.2.1) (32 : Int32)) + ((own_rot (t6.2.2.2 ^^^ (0 : Int64)) (16 : Int32)) ^^^ (t6.2.2.1 + (t6.2.2.2 ^^^ (0 : Int64)))))), vS, vI (u3 - u2), vI ((3 : Int32) + (1 : Int32)), vI (6 : Int32), vL (0 : Int64), vS, vI oa3, vI u3, vI ob3]) rfl (pc' := 320) rfl ?_
  refine own_lload X4 hx (hb hby d9_320) rfl (pc' := 322) rfl ?_
  refine own_lload X4 hx (hb hby d9_322) rfl (pc' := 324) rfl ?_
  refine own_lxor X4 hx (hb hby d9_324) (pc' := 325) rfl ?_
  refine own_lstore X4 hx (hb hby d9_325) (l' := #[vR ra, vR rb, vI u2, vI u3, vL (((own_rot (t6.1 + t6.2.1) (32 : Int32)) + ((own_rot (t6.2.2.2 ^^^ (0 : Int64)) (16 : Int32)) ^^^ (t6.2.2.1 + (t6.2.2.2 ^^^ (0 : Int64))))) ^^^ (0 : Int64)), vS, vL ((own_rot ((own_rot t6.2.1 (13 : Int32)) ^^^ (t6.1 + t6.2.1)) (17 : Int32)) ^^^ ((t6.2.2.1 + (t6.2.2.2 ^^^ (0 : Int64))) + ((own_rot t6.2.1 (13 : Int32)) ^^^ (t6.1 + t6.2.1)))), vS, vL (own_rot ((t6.2.2.1 + (t6.2.2.2 ^^^ (0 : Int64))) + ((own_rot t6.2.1 (13 : Int32)) ^^^ (t6.1 + t6.2.1))) (32 : Int32)), vS, vL ((own_rot ((own_rot (t6.2.2.2 ^^^ (0 : Int64)) (16 : Int32)) ^^^ (t6.2.2.1 + (t6.2.2.2 ^^^ (0 : Int64)))) (21 : Int32)) ^^^ ((own_rot (t6.1 + t6.2.1) (32 : Int32)) + ((own_rot (t6.2.2.2 ^^^ (0 : Int64)) (16 : Int32)) ^^^ (t6.2.2.1 + (t6.2.2.2 ^^^ (0 : Int64)))))), vS, vI (u3 - u2), vI ((3 : Int32) + (1 : Int32)), vI (6 : Int32), vL (0 : Int64), vS, vI oa3, vI u3, vI ob3]) rfl (pc' := 327) rfl ?_
  refine own_iinc X4 hx (hb hby d9_327) rfl (z := (1 : Int32)) rfl (l' := #[vR ra, vR rb, vI u2, vI u3, vL (((own_rot (t6.1 + t6.2.1) (32 : Int32)) + ((own_rot (t6.2.2.2 ^^^ (0 : Int64)) (16 : Int32)) ^^^ (t6.2.2.1 + (t6.2.2.2 ^^^ (0 : Int64))))) ^^^ (0 : Int64)), vS, vL ((own_rot ((own_rot t6.2.1 (13 : Int32)) ^^^ (t6.1 + t6.2.1)) (17 : Int32)) ^^^ ((t6.2.2.1 + (t6.2.2.2 ^^^ (0 : Int64))) + ((own_rot t6.2.1 (13 : Int32)) ^^^ (t6.1 + t6.2.1)))), vS, vL (own_rot ((t6.2.2.1 + (t6.2.2.2 ^^^ (0 : Int64))) + ((own_rot t6.2.1 (13 : Int32)) ^^^ (t6.1 + t6.2.1))) (32 : Int32)), vS, vL ((own_rot ((own_rot (t6.2.2.2 ^^^ (0 : Int64)) (16 : Int32)) ^^^ (t6.2.2.1 + (t6.2.2.2 ^^^ (0 : Int64)))) (21 : Int32)) ^^^ ((own_rot (t6.1 + t6.2.1) (32 : Int32)) + ((own_rot (t6.2.2.2 ^^^ (0 : Int64)) (16 : Int32)) ^^^ (t6.2.2.1 + (t6.2.2.2 ^^^ (0 : Int64)))))), vS, vI (u3 - u2), vI ((3 : Int32) + (1 : Int32)), vI ((6 : Int32) + (1 : Int32)), vL (0 : Int64), vS, vI oa3, vI u3, vI ob3]) rfl (pc' := 330) rfl ?_
  refine own_goto X4 hx (hb hby d9_330) (by decide) (pc' := 57) rfl ?_
  show own_G p e below s _ _ _ (T4.setTop (mkF m 57 #[vR ra, vR rb, vI u2, vI u3, vL ((own_comp (0 : Int64) t6).1), vS, vL ((own_comp (0 : Int64) t6).2.1), vS, vL ((own_comp (0 : Int64) t6).2.2.1), vS, vL ((own_comp (0 : Int64) t6).2.2.2), vS, vI (u3 - u2), vI ((3 : Int32) + (1 : Int32)), vI (7 : Int32), vL (0 : Int64), vS, vI oa3, vI u3, vI ob3] []))
  generalize ht7 : (own_comp (0 : Int64) t6) = t7
  refine own_iload X4 hx (hb hby d9_57) rfl (pc' := 59) rfl ?_
  refine own_iload X4 hx (hb hby d9_59) rfl (pc' := 61) rfl ?_
  refine own_iconst X4 hx (hb hby d9_61) (z := (3 : Int32)) rfl (pc' := 62) rfl ?_
  refine own_iadd X4 hx (hb hby d9_62) (pc' := 63) rfl ?_
  refine own_icmpT X4 hx (hb hby d9_63) (by decide) (by decide) (pc' := 333) rfl ?_
  refine own_lload X4 hx (hb hby d9_333) rfl (pc' := 335) rfl ?_
  refine own_lload X4 hx (hb hby d9_335) rfl (pc' := 337) rfl ?_
  refine own_lxor X4 hx (hb hby d9_337) (pc' := 338) rfl ?_
  refine own_lload X4 hx (hb hby d9_338) rfl (pc' := 340) rfl ?_
  refine own_lxor X4 hx (hb hby d9_340) (pc' := 341) rfl ?_
  refine own_lload X4 hx (hb hby d9_341) rfl (pc' := 343) rfl ?_
  refine own_lxor X4 hx (hb hby d9_343) (pc' := 344) rfl ?_
  exact own_retL X4 hx hret hlk (hb hby d9_344) ⟨(by subst ht7 ht6 ht5 ht4 ht3 ht2 ht1 ht0 hM0 hM1 hM2 hM3; rfl), N0, e4⟩ (by decide) (by decide)
theorem own_len (u : Int32) : 0 ≤ (((u.toUInt32 >>> ((3 : Int32) &&& 31).toUInt32).toInt32) % (25 : Int32)).toInt ∧ (((u.toUInt32 >>> ((3 : Int32) &&& 31).toUInt32).toInt32) % (25 : Int32)).toInt ≤ 24 := by
  have h := c_iushr u 3 3 (by decide) (by decide)
  have h1 := (c_irem ((u.toUInt32 >>> ((3 : Int32) &&& 31).toUInt32).toInt32) 25 25 rfl).1 (by omega)
  omega
theorem own_start (u ln : Int32) (h : 0 ≤ ln.toInt ∧ ln.toInt ≤ 24) : 0 ≤ ((if ((24 : Int32) - ln) < (u &&& (7 : Int32)) then ((24 : Int32) - ln) else (u &&& (7 : Int32)))).toInt ∧ ((if ((24 : Int32) - ln) < (u &&& (7 : Int32)) then ((24 : Int32) - ln) else (u &&& (7 : Int32)))).toInt + ln.toInt ≤ 24 := by
  have h1 := c_mask u 7 3 (by decide) (by decide)
  have h2 := c_isub 24 ln
  have h3 := rng32 (24 - ln)
  simp only [Int32.reduceToInt] at h2
  by_cases c : ((24 : Int32) - ln) < (u &&& (7 : Int32))
  · rw [if_pos c]; omega
  · rw [if_neg c]
    simp only [Int32.lt_iff_toInt_lt] at c
    omega
theorem own_nb (ln : Int32) (h : 0 ≤ ln.toInt ∧ ln.toInt ≤ 24) : (ln / (8 : Int32)) = (0 : Int32) ∨ (ln / (8 : Int32)) = (1 : Int32) ∨ (ln / (8 : Int32)) = (2 : Int32) ∨ (ln / (8 : Int32)) = (3 : Int32) := by
  have h1 := (c_idiv ln 8 8 rfl (by decide)).1 h.1
  simp only [← Int32.toInt_inj, Int32.reduceToInt]
  omega
theorem own_canc (a b : Int32) : (a + b) - a = b := by
  have h1 := c_iadd a b
  have h2 := c_isub (a + b) a
  have h3 := rng32 ((a + b) - a)
  have h4 := rng32 b
  rw [← Int32.toInt_inj]; omega
theorem own_z (a : Int32) : (a + ((0 : Int32) * (8 : Int32))) = a := by
  rw [show (0 : Int32) * (8 : Int32) = 0 by decide, Int32.add_zero]
theorem own_rem (s l i : Int32) (hs : 0 ≤ s.toInt ∧ s.toInt + l.toInt ≤ 24) (hl : 0 ≤ l.toInt) (hi : 0 ≤ i.toInt ∧ i.toInt ≤ 3) (hb : i.toInt * 8 ≤ l.toInt ∧ l.toInt < i.toInt * 8 + 8) : ((s + l) - (s + (i * (8 : Int32)))) = (l % (8 : Int32)) := by
  have h1 := own_addk s l (by omega) (by omega)
  have h2 := own_offk s i (by omega) hi
  have h3 := own_sub (s + l) (s + (i * 8)) (by omega)
  have h4 := (c_irem l 8 8 rfl).1 hl
  rw [← Int32.toInt_inj]; omega
theorem own_end (Y : own_S) : own_x4 (own_comp (0 : Int64) (own_comp (0 : Int64) (own_comp (0 : Int64) (own_ff Y)))) = own_x4 (own_round (own_round (own_round (Y.1, Y.2.1, (Y.2.2.1 ^^^ (255 : Int64)), Y.2.2.2)))) := by
  rw [own_comp0, own_comp0, own_comp0]; rfl
theorem ow_0 {Z : State} {a0 : Array Value} (hw : ∀ d ∈ tables_1, d.before a0 Z = true) : (Jvm.Cond.methodLink "com/example/structlane/structlane/header/SipHashHashPinLaw" (7 : Nat) ({ cls := "java/lang/Math", name := "min", desc := "(II)I" } : Jvm.MethodName)).before a0 Z = true := hw _ (List.mem_of_getElem? (i := 0) rfl)
theorem opd__II_I : parseMethodDescriptor "(II)I" = some ⟨[.int, .int], some .int⟩ := by decide +kernel
theorem ow_1 {Z : State} {a0 : Array Value} (hw : ∀ d ∈ tables_1, d.before a0 Z = true) : (Jvm.Cond.static ({ cls := "java/lang/Math", name := "min", desc := "(II)I" } : Jvm.MethodName)).before a0 Z = true := hw _ (List.mem_of_getElem? (i := 1) rfl)
theorem ow_2 {Z : State} {a0 : Array Value} (hw : ∀ d ∈ tables_1, d.before a0 Z = true) : (Jvm.Cond.initialized "java/lang/Math").before a0 Z = true := hw _ (List.mem_of_getElem? (i := 2) rfl)
theorem ow_3 {Z : State} {a0 : Array Value} (hw : ∀ d ∈ tables_1, d.before a0 Z = true) : (Jvm.Cond.code ({ cls := "java/lang/Math", name := "min", desc := "(II)I" } : Jvm.MethodName) jdk_29_method_69_code (2 : Nat) (Option.some Jvm.ClassFile.FieldType.int)).before a0 Z = true := hw _ (List.mem_of_getElem? (i := 3) rfl)
theorem ow_4 {Z : State} {a0 : Array Value} (hw : ∀ d ∈ tables_1, d.before a0 Z = true) : (Jvm.Cond.arrayClass Jvm.ClassFile.FieldType.byte).before a0 Z = true := hw _ (List.mem_of_getElem? (i := 4) rfl)
theorem ow_5 {Z : State} {a0 : Array Value} (hw : ∀ d ∈ tables_1, d.before a0 Z = true) : (Jvm.Cond.methodLink "com/example/structlane/structlane/header/SipHashHashPinLaw" (13 : Nat) ({ cls := "com/example/structlane/structlane/header/SipHashHashPinLaw", name := "put", desc := "([BIJ)V" } : Jvm.MethodName)).before a0 Z = true := hw _ (List.mem_of_getElem? (i := 5) rfl)
theorem opd___BIJ_V : parseMethodDescriptor "([BIJ)V" = some ⟨[(.array .byte), .int, .long], none⟩ := by decide +kernel
theorem ow_6 {Z : State} {a0 : Array Value} (hw : ∀ d ∈ tables_1, d.before a0 Z = true) : (Jvm.Cond.static ({ cls := "com/example/structlane/structlane/header/SipHashHashPinLaw", name := "put", desc := "([BIJ)V" } : Jvm.MethodName)).before a0 Z = true := hw _ (List.mem_of_getElem? (i := 6) rfl)
theorem ow_8 {Z : State} {a0 : Array Value} (hw : ∀ d ∈ tables_1, d.before a0 Z = true) : (Jvm.Cond.code ({ cls := "com/example/structlane/structlane/header/SipHashHashPinLaw", name := "put", desc := "([BIJ)V" } : Jvm.MethodName) method_3_code (4 : Nat) (Option.none : Option Jvm.ClassFile.FieldType)).before a0 Z = true := hw _ (List.mem_of_getElem? (i := 8) rfl)
theorem ow_9 {Z : State} {a0 : Array Value} (hw : ∀ d ∈ tables_1, d.before a0 Z = true) : (Jvm.Cond.arrayClass Jvm.ClassFile.FieldType.long).before a0 Z = true := hw _ (List.mem_of_getElem? (i := 9) rfl)
theorem ow_10 {Z : State} {a0 : Array Value} (hw : ∀ d ∈ tables_1, d.before a0 Z = true) : (Jvm.Cond.constantLong "com/example/structlane/structlane/header/SipHashHashPinLaw" (19 : Nat) (8317987319222330741 : Int64)).before a0 Z = true := hw _ (List.mem_of_getElem? (i := 10) rfl)
theorem ow_11 {Z : State} {a0 : Array Value} (hw : ∀ d ∈ tables_1, d.before a0 Z = true) : (Jvm.Cond.constantLong "com/example/structlane/structlane/header/SipHashHashPinLaw" (21 : Nat) (7237128888997146477 : Int64)).before a0 Z = true := hw _ (List.mem_of_getElem? (i := 11) rfl)
theorem ow_12 {Z : State} {a0 : Array Value} (hw : ∀ d ∈ tables_1, d.before a0 Z = true) : (Jvm.Cond.constantLong "com/example/structlane/structlane/header/SipHashHashPinLaw" (23 : Nat) (7816392313619706465 : Int64)).before a0 Z = true := hw _ (List.mem_of_getElem? (i := 12) rfl)
theorem ow_13 {Z : State} {a0 : Array Value} (hw : ∀ d ∈ tables_1, d.before a0 Z = true) : (Jvm.Cond.constantLong "com/example/structlane/structlane/header/SipHashHashPinLaw" (25 : Nat) (8387220255154660723 : Int64)).before a0 Z = true := hw _ (List.mem_of_getElem? (i := 13) rfl)
theorem ow_14 {Z : State} {a0 : Array Value} (hw : ∀ d ∈ tables_1, d.before a0 Z = true) : (Jvm.Cond.methodLink "com/example/structlane/structlane/header/SipHashHashPinLaw" (27 : Nat) ({ cls := "com/example/structlane/structlane/header/SipHashHashPinLaw", name := "le8", desc := "([BII)J" } : Jvm.MethodName)).before a0 Z = true := hw _ (List.mem_of_getElem? (i := 14) rfl)
theorem opd___BII_J : parseMethodDescriptor "([BII)J" = some ⟨[(.array .byte), .int, .int], some .long⟩ := by decide +kernel
theorem ow_15 {Z : State} {a0 : Array Value} (hw : ∀ d ∈ tables_1, d.before a0 Z = true) : (Jvm.Cond.static ({ cls := "com/example/structlane/structlane/header/SipHashHashPinLaw", name := "le8", desc := "([BII)J" } : Jvm.MethodName)).before a0 Z = true := hw _ (List.mem_of_getElem? (i := 15) rfl)
theorem ow_16 {Z : State} {a0 : Array Value} (hw : ∀ d ∈ tables_1, d.before a0 Z = true) : (Jvm.Cond.code ({ cls := "com/example/structlane/structlane/header/SipHashHashPinLaw", name := "le8", desc := "([BII)J" } : Jvm.MethodName) method_4_code (5 : Nat) (Option.some Jvm.ClassFile.FieldType.long)).before a0 Z = true := hw _ (List.mem_of_getElem? (i := 16) rfl)
theorem ow_17 {Z : State} {a0 : Array Value} (hw : ∀ d ∈ tables_1, d.before a0 Z = true) : (Jvm.Cond.methodLink "com/example/structlane/structlane/header/SipHashHashPinLaw" (31 : Nat) ({ cls := "com/example/structlane/structlane/header/SipHashHashPinLaw", name := "compress", desc := "([JJ)V" } : Jvm.MethodName)).before a0 Z = true := hw _ (List.mem_of_getElem? (i := 17) rfl)
theorem opd___JJ_V : parseMethodDescriptor "([JJ)V" = some ⟨[(.array .long), .long], none⟩ := by decide +kernel
theorem ow_18 {Z : State} {a0 : Array Value} (hw : ∀ d ∈ tables_1, d.before a0 Z = true) : (Jvm.Cond.static ({ cls := "com/example/structlane/structlane/header/SipHashHashPinLaw", name := "compress", desc := "([JJ)V" } : Jvm.MethodName)).before a0 Z = true := hw _ (List.mem_of_getElem? (i := 18) rfl)
theorem ow_19 {Z : State} {a0 : Array Value} (hw : ∀ d ∈ tables_1, d.before a0 Z = true) : (Jvm.Cond.code ({ cls := "com/example/structlane/structlane/header/SipHashHashPinLaw", name := "compress", desc := "([JJ)V" } : Jvm.MethodName) method_7_code (3 : Nat) (Option.none : Option Jvm.ClassFile.FieldType)).before a0 Z = true := hw _ (List.mem_of_getElem? (i := 19) rfl)
theorem ow_26 {Z : State} {a0 : Array Value} (hw : ∀ d ∈ tables_1, d.before a0 Z = true) : (Jvm.Cond.constantLong "com/example/structlane/structlane/header/SipHashHashPinLaw" (35 : Nat) (255 : Int64)).before a0 Z = true := hw _ (List.mem_of_getElem? (i := 26) rfl)
theorem ow_27 {Z : State} {a0 : Array Value} (hw : ∀ d ∈ tables_1, d.before a0 Z = true) : (Jvm.Cond.classLink "com/example/structlane/structlane/header/SipHashHashPinLaw" (41 : Nat) "com/example/structlane/structlane/header/SipHash").before a0 Z = true := hw _ (List.mem_of_getElem? (i := 27) rfl)
theorem ow_29 {Z : State} {a0 : Array Value} (hw : ∀ d ∈ tables_1, d.before a0 Z = true) : (Jvm.Cond.initialized "com/example/structlane/structlane/header/SipHash").before a0 Z = true := hw _ (List.mem_of_getElem? (i := 29) rfl)
theorem ow_30 {Z : State} {a0 : Array Value} (hw : ∀ d ∈ tables_1, d.before a0 Z = true) : (Jvm.Cond.methodLink "com/example/structlane/structlane/header/SipHashHashPinLaw" (43 : Nat) ({ cls := "com/example/structlane/structlane/header/SipHash", name := "<init>", desc := "(JJ)V" } : Jvm.MethodName)).before a0 Z = true := hw _ (List.mem_of_getElem? (i := 30) rfl)
theorem opd__JJ_V : parseMethodDescriptor "(JJ)V" = some ⟨[.long, .long], none⟩ := by decide +kernel
theorem ow_31 {Z : State} {a0 : Array Value} (hw : ∀ d ∈ tables_1, d.before a0 Z = true) : (Jvm.Cond.instanceMethod ({ cls := "com/example/structlane/structlane/header/SipHash", name := "<init>", desc := "(JJ)V" } : Jvm.MethodName)).before a0 Z = true := hw _ (List.mem_of_getElem? (i := 31) rfl)
theorem ow_32 {Z : State} {a0 : Array Value} (hw : ∀ d ∈ tables_1, d.before a0 Z = true) : (Jvm.Cond.code ({ cls := "com/example/structlane/structlane/header/SipHash", name := "<init>", desc := "(JJ)V" } : Jvm.MethodName) prog_186_method_1_code (5 : Nat) (Option.none : Option Jvm.ClassFile.FieldType)).before a0 Z = true := hw _ (List.mem_of_getElem? (i := 32) rfl)
theorem ow_40 {Z : State} {a0 : Array Value} (hw : ∀ d ∈ tables_1, d.before a0 Z = true) : (Jvm.Cond.methodLink "com/example/structlane/structlane/header/SipHashHashPinLaw" (46 : Nat) ({ cls := "com/example/structlane/structlane/header/SipHash", name := "hash", desc := "([BII)J" } : Jvm.MethodName)).before a0 Z = true := hw _ (List.mem_of_getElem? (i := 40) rfl)
theorem ow_43 {Z : State} {a0 : Array Value} (hw : ∀ d ∈ tables_1, d.before a0 Z = true) : (Jvm.Cond.selects "com/example/structlane/structlane/header/SipHash" ({ cls := "com/example/structlane/structlane/header/SipHash", name := "hash", desc := "([BII)J" } : Jvm.MethodName) ({ cls := "com/example/structlane/structlane/header/SipHash", name := "hash", desc := "([BII)J" } : Jvm.MethodName)).before a0 Z = true := hw _ (List.mem_of_getElem? (i := 43) rfl)
theorem ow_41 {Z : State} {a0 : Array Value} (hw : ∀ d ∈ tables_1, d.before a0 Z = true) : (Jvm.Cond.declares ({ cls := "com/example/structlane/structlane/header/SipHash", name := "hash", desc := "([BII)J" } : Jvm.MethodName)).before a0 Z = true := hw _ (List.mem_of_getElem? (i := 41) rfl)
theorem ow_42 {Z : State} {a0 : Array Value} (hw : ∀ d ∈ tables_1, d.before a0 Z = true) : (Jvm.Cond.instanceMethod ({ cls := "com/example/structlane/structlane/header/SipHash", name := "hash", desc := "([BII)J" } : Jvm.MethodName)).before a0 Z = true := hw _ (List.mem_of_getElem? (i := 42) rfl)
theorem ow_44 {Z : State} {a0 : Array Value} (hw : ∀ d ∈ tables_1, d.before a0 Z = true) : (Jvm.Cond.code ({ cls := "com/example/structlane/structlane/header/SipHash", name := "hash", desc := "([BII)J" } : Jvm.MethodName) prog_186_method_3_code (20 : Nat) (Option.some Jvm.ClassFile.FieldType.long)).before a0 Z = true := hw _ (List.mem_of_getElem? (i := 44) rfl)
theorem oef_law (m : MethodId) (u0 : Int64) (u1 : Int64) (u2 : Int64) (u3 : Int64) (u4 : Int64) (u5 : Int32) : entryFrame m #[(.long u0), (.long u1), (.long u2), (.long u3), (.long u4), (.int u5)] maxLocals = mkF m 0 #[vL u0, vS, vL u1, vS, vL u2, vS, vL u3, vS, vL u4, vS, vI u5, vU, vU, vU, vU, vU, vU, vU, vU, vU, vU, vU] [] := by first | (simp [entryFrame, mkF, argsToLocals, Value.category, maxLocals]; done) | rfl
set_option maxRecDepth 65536 in
set_option maxHeartbeats 40000000 in
theorem own_law (l : Launch) (Z : State) (a0 : Array Value) (hw : ∀ d ∈ tables_1, d.before a0 Z = true) (u0 : Int64) (u1 : Int64) (u2 : Int64) (u3 : Int64) (u4 : Int64) (u5 : Int32) (h0 : Heap) (n0 : Nat) (Z0 : n0 ≤ h0.size) :
    own_M l Z x code maxLocals ret tables_1 room_1 #[(.long u0), (.long u1), (.long u2), (.long u3), (.long u4), (.int u5)] h0 (fun v h L => v = some (.int 1) ∧ Fr n0 L) 3 30 := by
  refine own_body (plainFor_of_name opn_com_example_structlane_structlane_header_SipHashHashPinLaw) ?_
  intro p e s m below meth c s1 hx hby hml' hown hnm hret hlk hZ X0 e0
  have hml : c.maxLocals = 22 := hml'
  rw [oef_law m u0 u1 u2 u3 u4 u5]
  have N0 := Fr.nil n0
  refine own_iload X0 hx (hb hby at_0) rfl (pc' := 2) rfl ?_
  refine own_iconst X0 hx (hb hby at_2) (z := (3 : Int32)) rfl (pc' := 3) rfl ?_
  refine own_iushr X0 hx (hb hby at_3) (pc' := 4) rfl ?_
  refine own_bipush X0 hx (hb hby at_4) (z := (25 : Int32)) (by decide) (pc' := 6) rfl ?_
  refine own_irem X0 hx (hb hby at_6) (by decide) (pc' := 7) rfl ?_
  refine own_istore X0 hx (hb hby at_7) (l' := #[vL u0, vS, vL u1, vS, vL u2, vS, vL u3, vS, vL u4, vS, vI u5, vI (((u5.toUInt32 >>> ((3 : Int32) &&& 31).toUInt32).toInt32) % (25 : Int32)), vU, vU, vU, vU, vU, vU, vU, vU, vU, vU]) rfl (pc' := 9) rfl ?_
  refine own_iload X0 hx (hb hby at_9) rfl (pc' := 11) rfl ?_
  refine own_bipush X0 hx (hb hby at_11) (z := (7 : Int32)) (by decide) (pc' := 13) rfl ?_
  refine own_iand X0 hx (hb hby at_13) (pc' := 14) rfl ?_
  refine own_bipush X0 hx (hb hby at_14) (z := (24 : Int32)) (by decide) (pc' := 16) rfl ?_
  refine own_iload X0 hx (hb hby at_16) rfl (pc' := 18) rfl ?_
  refine own_isub X0 hx (hb hby at_18) (pc' := 19) rfl ?_
  refine own_callS X0 hx hZ hown (ow_0 hw) (ow_1 hw) (ow_2 hw) (ow_3 hw) (by decide) (rm_min l Z a0 hw (u5 &&& (7 : Int32)) ((24 : Int32) - (((u5.toUInt32 >>> ((3 : Int32) &&& 31).toUInt32).toInt32) % (25 : Int32))) h0 n0 Z0) e0 (W := 0) (by decide) (by decide) opd__II_I rfl (rest := []) rfl (hb hby at_19) (Nat.le_of_eq rfl) (by rw [hml]; rfl) (by decide) (by decide) (pc' := 22) rfl ?_
  intro v1 T1 L1 X1 q1
  obtain ⟨rfl, Nq1, eh1⟩ := q1
  have N1 := Fr.app N0 Nq1
  show own_G p e below s _ _ _ (T1.setTop (mkF m 22 #[vL u0, vS, vL u1, vS, vL u2, vS, vL u3, vS, vL u4, vS, vI u5, vI (((u5.toUInt32 >>> ((3 : Int32) &&& 31).toUInt32).toInt32) % (25 : Int32)), vU, vU, vU, vU, vU, vU, vU, vU, vU, vU] [(.int (if ((24 : Int32) - (((u5.toUInt32 >>> ((3 : Int32) &&& 31).toUInt32).toInt32) % (25 : Int32))) < (u5 &&& (7 : Int32)) then ((24 : Int32) - (((u5.toUInt32 >>> ((3 : Int32) &&& 31).toUInt32).toInt32) % (25 : Int32))) else (u5 &&& (7 : Int32))))]))
  refine own_istore X1 hx (hb hby at_22) (l' := #[vL u0, vS, vL u1, vS, vL u2, vS, vL u3, vS, vL u4, vS, vI u5, vI (((u5.toUInt32 >>> ((3 : Int32) &&& 31).toUInt32).toInt32) % (25 : Int32)), vI (if ((24 : Int32) - (((u5.toUInt32 >>> ((3 : Int32) &&& 31).toUInt32).toInt32) % (25 : Int32))) < (u5 &&& (7 : Int32)) then ((24 : Int32) - (((u5.toUInt32 >>> ((3 : Int32) &&& 31).toUInt32).toInt32) % (25 : Int32))) else (u5 &&& (7 : Int32))), vU, vU, vU, vU, vU, vU, vU, vU, vU]) rfl (pc' := 24) rfl ?_
  refine own_iload X1 hx (hb hby at_24) rfl (pc' := 26) rfl ?_
  refine own_iload X1 hx (hb hby at_26) rfl (pc' := 28) rfl ?_
  refine own_iadd X1 hx (hb hby at_28) (pc' := 29) rfl ?_
  refine own_istore X1 hx (hb hby at_29) (l' := #[vL u0, vS, vL u1, vS, vL u2, vS, vL u3, vS, vL u4, vS, vI u5, vI (((u5.toUInt32 >>> ((3 : Int32) &&& 31).toUInt32).toInt32) % (25 : Int32)), vI (if ((24 : Int32) - (((u5.toUInt32 >>> ((3 : Int32) &&& 31).toUInt32).toInt32) % (25 : Int32))) < (u5 &&& (7 : Int32)) then ((24 : Int32) - (((u5.toUInt32 >>> ((3 : Int32) &&& 31).toUInt32).toInt32) % (25 : Int32))) else (u5 &&& (7 : Int32))), vI ((if ((24 : Int32) - (((u5.toUInt32 >>> ((3 : Int32) &&& 31).toUInt32).toInt32) % (25 : Int32))) < (u5 &&& (7 : Int32)) then ((24 : Int32) - (((u5.toUInt32 >>> ((3 : Int32) &&& 31).toUInt32).toInt32) % (25 : Int32))) else (u5 &&& (7 : Int32))) + (((u5.toUInt32 >>> ((3 : Int32) &&& 31).toUInt32).toInt32) % (25 : Int32))), vU, vU, vU, vU, vU, vU, vU, vU]) rfl (pc' := 31) rfl ?_
  have hL := own_len u5
  have hS := own_start u5 _ hL
  generalize (((u5.toUInt32 >>> ((3 : Int32) &&& 31).toUInt32).toInt32) % (25 : Int32)) = ln at *
  generalize (if ((24 : Int32) - ln) < (u5 &&& (7 : Int32)) then ((24 : Int32) - ln) else (u5 &&& (7 : Int32))) = stt at *
  refine own_bipush X1 hx (hb hby at_31) (z := (24 : Int32)) (by decide) (pc' := 33) rfl ?_
  refine own_newAI X1 hx hZ (ty := .byte) rfl (ow_4 hw) eh1 (hb hby at_33) (pc' := 35) rfl (by decide) (cap := 24) (by decide) (by decide) (by decide) (by decide) rfl ?_
  intro T2 h2 a2 g2 X2 e2 E2 A2
  have ge_a2 : n0 ≤ a2 := by rw [g2]; exact Z0
  refine own_astore X2 hx (hb hby at_35) rfl (l' := #[vL u0, vS, vL u1, vS, vL u2, vS, vL u3, vS, vL u4, vS, vI u5, vI ln, vI stt, vI (stt + ln), vR a2, vU, vU, vU, vU, vU, vU, vU]) rfl (pc' := 37) rfl ?_
  refine own_aload X2 hx (hb hby at_37) rfl rfl (pc' := 39) rfl ?_
  refine own_iconst X2 hx (hb hby at_39) (z := (0 : Int32)) rfl (pc' := 40) rfl ?_
  refine own_lload X2 hx (hb hby at_40) rfl (pc' := 42) rfl ?_
  have z4 : n0 ≤ h2.size := (Nat.le_trans Z0 E2.1)
  refine own_callS X2 hx hZ hown (ow_5 hw) (ow_6 hw) (ow_7 hw) (ow_8 hw) (by decide) (rm_put l Z a0 hw a2 (0 : Int32) u2 (fun _ => 0) h2 n0 z4 A2 ge_a2 (by decide)) e2 (W := 0) (by decide) (by decide) opd___BIJ_V rfl (rest := []) rfl (hb hby at_42) (Nat.le_of_eq rfl) (by rw [hml]; rfl) (by decide) (by decide) (pc' := 45) rfl ?_
  intro v3 T3 L3 X3 q3
  obtain ⟨g2_3, rfl, Nq3, K3, p3_0⟩ := q3
  have N3 := Fr.app N1 Nq3
  show own_G p e below s _ _ _ (T3.setTop (mkF m 45 #[vL u0, vS, vL u1, vS, vL u2, vS, vL u3, vS, vL u4, vS, vI u5, vI ln, vI stt, vI (stt + ln), vR a2, vU, vU, vU, vU, vU, vU, vU] []))
  refine own_aload X3 hx (hb hby at_45) rfl rfl (pc' := 47) rfl ?_
  refine own_bipush X3 hx (hb hby at_47) (z := (8 : Int32)) (by decide) (pc' := 49) rfl ?_
  refine own_lload X3 hx (hb hby at_49) rfl (pc' := 51) rfl ?_
  have z6 : n0 ≤ T3.heap.size := (Nat.le_trans z4 K3.1)
  refine own_callS X3 hx hZ hown (ow_5 hw) (ow_6 hw) (ow_7 hw) (ow_8 hw) (by decide) (rm_put l Z a0 hw a2 (8 : Int32) u3 g2_3 T3.heap n0 z6 p3_0 ge_a2 (by decide)) rfl (W := 0) (by decide) (by decide) opd___BIJ_V rfl (rest := []) rfl (hb hby at_51) (Nat.le_of_eq rfl) (by rw [hml]; rfl) (by decide) (by decide) (pc' := 54) rfl ?_
  intro v5 T5 L5 X5 q5
  obtain ⟨g2_5, rfl, Nq5, K5, p5_0⟩ := q5
  have N5 := Fr.app N3 Nq5
  show own_G p e below s _ _ _ (T5.setTop (mkF m 54 #[vL u0, vS, vL u1, vS, vL u2, vS, vL u3, vS, vL u4, vS, vI u5, vI ln, vI stt, vI (stt + ln), vR a2, vU, vU, vU, vU, vU, vU, vU] []))
  refine own_aload X5 hx (hb hby at_54) rfl rfl (pc' := 56) rfl ?_
  refine own_bipush X5 hx (hb hby at_56) (z := (16 : Int32)) (by decide) (pc' := 58) rfl ?_
  refine own_lload X5 hx (hb hby at_58) rfl (pc' := 60) rfl ?_
  have z8 : n0 ≤ T5.heap.size := (Nat.le_trans z6 K5.1)
  refine own_callS X5 hx hZ hown (ow_5 hw) (ow_6 hw) (ow_7 hw) (ow_8 hw) (by decide) (rm_put l Z a0 hw a2 (16 : Int32) u4 g2_5 T5.heap n0 z8 p5_0 ge_a2 (by decide)) rfl (W := 0) (by decide) (by decide) opd___BIJ_V rfl (rest := []) rfl (hb hby at_60) (Nat.le_of_eq rfl) (by rw [hml]; rfl) (by decide) (by decide) (pc' := 63) rfl ?_
  intro v7 T7 L7 X7 q7
  obtain ⟨g2_7, rfl, Nq7, K7, p7_0⟩ := q7
  have N7 := Fr.app N5 Nq7
  show own_G p e below s _ _ _ (T7.setTop (mkF m 63 #[vL u0, vS, vL u1, vS, vL u2, vS, vL u3, vS, vL u4, vS, vI u5, vI ln, vI stt, vI (stt + ln), vR a2, vU, vU, vU, vU, vU, vU, vU] []))
  refine own_iconst X7 hx (hb hby at_63) (z := (4 : Int32)) rfl (pc' := 64) rfl ?_
  have z10 : n0 ≤ T7.heap.size := (Nat.le_trans z8 K7.1)
  refine own_newAJ X7 hx hZ (ty := .long) rfl (ow_9 hw) rfl (hb hby at_64) (pc' := 66) rfl (by decide) (cap := 4) (by decide) (by decide) (by decide) (by decide) rfl ?_
  intro T9 h9 a9 g9 X9 e9 E9 A9
  have lt_a2_a9 : a2 < a9 := by rw [g9]; exact p7_0.lt
  have ge_a9 : n0 ≤ a9 := by rw [g9]; exact z10
  have B9 : own_AJ Z h9 a9 .long (4 : Int32) (own_LJ [(0 : Int64), (0 : Int64), (0 : Int64), (0 : Int64)]) := A9.same (by decide)
  refine own_astore X9 hx (hb hby at_66) rfl (l' := #[vL u0, vS, vL u1, vS, vL u2, vS, vL u3, vS, vL u4, vS, vI u5, vI ln, vI stt, vI (stt + ln), vR a2, vR a9, vU, vU, vU, vU, vU, vU]) rfl (pc' := 68) rfl ?_
  refine own_aload X9 hx (hb hby at_68) rfl rfl (pc' := 70) rfl ?_
  refine own_iconst X9 hx (hb hby at_70) (z := (0 : Int32)) rfl (pc' := 71) rfl ?_
  refine own_lloadN X9 hx (hb hby at_71) rfl (pc' := 72) rfl ?_
  refine own_ldc2 X9 hx hZ hown (ow_10 hw) (hb hby at_72) (pc' := 75) rfl ?_
  refine own_lxor X9 hx (hb hby at_75) (pc' := 76) rfl ?_
  refine own_lastore X9 hx hZ e9 (g' := (own_LJ [(u0 ^^^ (8317987319222330741 : Int64)), (0 : Int64), (0 : Int64), (0 : Int64)])) B9 (x' := (u0 ^^^ (8317987319222330741 : Int64))) (by decide) rfl (fun i _ => own_LJ_set [(0 : Int64), (0 : Int64), (0 : Int64), (0 : Int64)] 0 (u0 ^^^ (8317987319222330741 : Int64)) (by simp) i) (hb hby at_76) (pc' := 77) rfl ?_
  intro T11 h11 X11 e11 W11 A11
  have N11 := Fr.snoc X11 N7 ge_a9
  refine own_aload X11 hx (hb hby at_77) rfl rfl (pc' := 79) rfl ?_
  refine own_iconst X11 hx (hb hby at_79) (z := (1 : Int32)) rfl (pc' := 80) rfl ?_
  refine own_lloadN X11 hx (hb hby at_80) rfl (pc' := 81) rfl ?_
  refine own_ldc2 X11 hx hZ hown (ow_11 hw) (hb hby at_81) (pc' := 84) rfl ?_
  refine own_lxor X11 hx (hb hby at_84) (pc' := 85) rfl ?_
  refine own_lastore X11 hx hZ e11 (g' := (own_LJ [(u0 ^^^ (8317987319222330741 : Int64)), (u1 ^^^ (7237128888997146477 : Int64)), (0 : Int64), (0 : Int64)])) A11 (x' := (u1 ^^^ (7237128888997146477 : Int64))) (by decide) rfl (fun i _ => own_LJ_set [(u0 ^^^ (8317987319222330741 : Int64)), (0 : Int64), (0 : Int64), (0 : Int64)] 1 (u1 ^^^ (7237128888997146477 : Int64)) (by simp) i) (hb hby at_85) (pc' := 86) rfl ?_
  intro T12 h12 X12 e12 W12 A12
  have N12 := Fr.snoc X12 N11 ge_a9
  refine own_aload X12 hx (hb hby at_86) rfl rfl (pc' := 88) rfl ?_
  refine own_iconst X12 hx (hb hby at_88) (z := (2 : Int32)) rfl (pc' := 89) rfl ?_
  refine own_lloadN X12 hx (hb hby at_89) rfl (pc' := 90) rfl ?_
  refine own_ldc2 X12 hx hZ hown (ow_12 hw) (hb hby at_90) (pc' := 93) rfl ?_
  refine own_lxor X12 hx (hb hby at_93) (pc' := 94) rfl ?_
  refine own_lastore X12 hx hZ e12 (g' := (own_LJ [(u0 ^^^ (8317987319222330741 : Int64)), (u1 ^^^ (7237128888997146477 : Int64)), (u0 ^^^ (7816392313619706465 : Int64)), (0 : Int64)])) A12 (x' := (u0 ^^^ (7816392313619706465 : Int64))) (by decide) rfl (fun i _ => own_LJ_set [(u0 ^^^ (8317987319222330741 : Int64)), (u1 ^^^ (7237128888997146477 : Int64)), (0 : Int64), (0 : Int64)] 2 (u0 ^^^ (7816392313619706465 : Int64)) (by simp) i) (hb hby at_94) (pc' := 95) rfl ?_
  intro T13 h13 X13 e13 W13 A13
  have N13 := Fr.snoc X13 N12 ge_a9
  refine own_aload X13 hx (hb hby at_95) rfl rfl (pc' := 97) rfl ?_
  refine own_iconst X13 hx (hb hby at_97) (z := (3 : Int32)) rfl (pc' := 98) rfl ?_
  refine own_lloadN X13 hx (hb hby at_98) rfl (pc' := 99) rfl ?_
  refine own_ldc2 X13 hx hZ hown (ow_13 hw) (hb hby at_99) (pc' := 102) rfl ?_
  refine own_lxor X13 hx (hb hby at_102) (pc' := 103) rfl ?_
  refine own_lastore X13 hx hZ e13 (g' := (own_LJ [(u0 ^^^ (8317987319222330741 : Int64)), (u1 ^^^ (7237128888997146477 : Int64)), (u0 ^^^ (7816392313619706465 : Int64)), (u1 ^^^ (8387220255154660723 : Int64))])) A13 (x' := (u1 ^^^ (8387220255154660723 : Int64))) (by decide) rfl (fun i _ => own_LJ_set [(u0 ^^^ (8317987319222330741 : Int64)), (u1 ^^^ (7237128888997146477 : Int64)), (u0 ^^^ (7816392313619706465 : Int64)), (0 : Int64)] 3 (u1 ^^^ (8387220255154660723 : Int64)) (by simp) i) (hb hby at_103) (pc' := 104) rfl ?_
  intro T14 h14 X14 e14 W14 A14
  have N14 := Fr.snoc X14 N13 ge_a9
  rcases own_nb ln hL with c15 | c16 | c17 | c18
  · have hB := own_blk hL.1 c15
    simp only [Int32.reduceToInt] at hB
    refine own_iload X14 hx (hb hby at_104) rfl (pc' := 106) rfl ?_
    refine own_bipush X14 hx (hb hby at_106) (z := (8 : Int32)) (by decide) (pc' := 108) rfl ?_
    refine own_icmpT X14 hx (hb hby at_108) (tlt (by simp only [Int32.lt_iff_toInt_lt, Int32.reduceToInt]; omega)).1 (by decide) (pc' := 125) rfl ?_
    refine own_iload X14 hx (hb hby at_125) rfl (pc' := 127) rfl ?_
    refine own_bipush X14 hx (hb hby at_127) (z := (16 : Int32)) (by decide) (pc' := 129) rfl ?_
    refine own_icmpT X14 hx (hb hby at_129) (tlt (by simp only [Int32.lt_iff_toInt_lt, Int32.reduceToInt]; omega)).1 (by decide) (pc' := 149) rfl ?_
    refine own_iload X14 hx (hb hby at_149) rfl (pc' := 151) rfl ?_
    refine own_bipush X14 hx (hb hby at_151) (z := (24 : Int32)) (by decide) (pc' := 153) rfl ?_
    refine own_icmpT X14 hx (hb hby at_153) (tlt (by simp only [Int32.lt_iff_toInt_lt, Int32.reduceToInt]; omega)).1 (by decide) (pc' := 173) rfl ?_
    refine own_aload X14 hx (hb hby at_173) rfl rfl (pc' := 175) rfl ?_
    refine own_iload X14 hx (hb hby at_175) rfl (pc' := 177) rfl ?_
    refine own_iload X14 hx (hb hby at_177) rfl (pc' := 179) rfl ?_
    refine own_bipush X14 hx (hb hby at_179) (z := (8 : Int32)) (by decide) (pc' := 181) rfl ?_
    refine own_idiv X14 hx (hb hby at_181) (by decide) (pc' := 182) rfl ?_
    rw [c15]
    refine own_bipush X14 hx (hb hby at_182) (z := (8 : Int32)) (by decide) (pc' := 184) rfl ?_
    refine own_imul X14 hx (hb hby at_184) (pc' := 185) rfl ?_
    refine own_iadd X14 hx (hb hby at_185) (pc' := 186) rfl ?_
    refine own_iload X14 hx (hb hby at_186) rfl (pc' := 188) rfl ?_
    refine own_bipush X14 hx (hb hby at_188) (z := (8 : Int32)) (by decide) (pc' := 190) rfl ?_
    refine own_irem X14 hx (hb hby at_190) (by decide) (pc' := 191) rfl ?_
    have f20 : own_AI Z h14 a2 .byte (24 : Int32) g2_7 := (((((p7_0.ext E9).other W11 (Nat.ne_of_lt lt_a2_a9)).other W12 (Nat.ne_of_lt lt_a2_a9)).other W13 (Nat.ne_of_lt lt_a2_a9)).other W14 (Nat.ne_of_lt lt_a2_a9))
    have z21 : n0 ≤ h14.size := (Nat.le_trans (Nat.le_trans (Nat.le_trans (Nat.le_trans (Nat.le_trans z10 E9.1) (Nat.le_of_eq (Wr.size W11).symm)) (Nat.le_of_eq (Wr.size W12).symm)) (Nat.le_of_eq (Wr.size W13).symm)) (Nat.le_of_eq (Wr.size W14).symm))
    refine own_callS X14 hx hZ hown (ow_14 hw) (ow_15 hw) (ow_7 hw) (ow_16 hw) (by decide) (rm_le8 l Z a0 hw a2 (stt + ((0 : Int32) * (8 : Int32))) (ln % (8 : Int32)) g2_7 h14 n0 z21 f20 (by have q := own_offk stt (0 : Int32) (by omega) (by decide); have q2 := (c_irem ln 8 8 rfl).1 hL.1; simp only [Int32.reduceToInt] at q; omega) (by have q := own_offk stt (0 : Int32) (by omega) (by decide); have q2 := (c_irem ln 8 8 rfl).1 hL.1; simp only [Int32.reduceToInt] at q; omega)) e14 (W := 0) (by decide) (by decide) opd___BII_J rfl (rest := []) rfl (hb hby at_191) (Nat.le_of_eq rfl) (by rw [hml]; rfl) (by decide) (by decide) (pc' := 194) rfl ?_
    intro v19 T19 L19 X19 q19
    obtain ⟨rfl, Nq19, eh19⟩ := q19
    have N19 := Fr.app N14 Nq19
    show own_G p e below s _ _ _ (T19.setTop (mkF m 194 #[vL u0, vS, vL u1, vS, vL u2, vS, vL u3, vS, vL u4, vS, vI u5, vI ln, vI stt, vI (stt + ln), vR a2, vR a9, vU, vU, vU, vU, vU, vU] [(.long (own_le8 g2_7 (stt + ((0 : Int32) * (8 : Int32))) (ln % (8 : Int32))))]))
    refine own_iload X19 hx (hb hby at_194) rfl (pc' := 196) rfl ?_
    refine own_i2l X19 hx (hb hby at_196) (pc' := 197) rfl ?_
    refine own_bipush X19 hx (hb hby at_197) (z := (56 : Int32)) (by decide) (pc' := 199) rfl ?_
    refine own_lshl X19 hx (hb hby at_199) (pc' := 200) rfl ?_
    refine own_lor X19 hx (hb hby at_200) (pc' := 201) rfl ?_
    refine own_lstore X19 hx (hb hby at_201) (l' := #[vL u0, vS, vL u1, vS, vL u2, vS, vL u3, vS, vL u4, vS, vI u5, vI ln, vI stt, vI (stt + ln), vR a2, vR a9, vL ((own_le8 g2_7 (stt + ((0 : Int32) * (8 : Int32))) (ln % (8 : Int32))) ||| (ln.toInt64 <<< ((56 : Int32) &&& 0x3f).toInt64)), vS, vU, vU, vU, vU]) rfl (pc' := 203) rfl ?_
    refine own_aload X19 hx (hb hby at_203) rfl rfl (pc' := 205) rfl ?_
    refine own_lload X19 hx (hb hby at_205) rfl (pc' := 207) rfl ?_
    refine own_callS X19 hx hZ hown (ow_17 hw) (ow_18 hw) (ow_7 hw) (ow_19 hw) (by decide) (rm_comp l Z a0 hw a9 ((own_le8 g2_7 (stt + ((0 : Int32) * (8 : Int32))) (ln % (8 : Int32))) ||| (ln.toInt64 <<< ((56 : Int32) &&& 0x3f).toInt64)) ((u0 ^^^ (8317987319222330741 : Int64)), (u1 ^^^ (7237128888997146477 : Int64)), (u0 ^^^ (7816392313619706465 : Int64)), (u1 ^^^ (8387220255154660723 : Int64))) h14 n0 z21 A14 ge_a9) eh19 (W := 0) (by decide) (by decide) opd___JJ_V rfl (rest := []) rfl (hb hby at_207) (Nat.le_of_eq rfl) (by rw [hml]; rfl) (by decide) (by decide) (pc' := 210) rfl ?_
    intro v22 T22 L22 X22 q22
    obtain ⟨rfl, Nq22, K22, p22_0⟩ := q22
    have N22 := Fr.app N19 Nq22
    show own_G p e below s _ _ _ (T22.setTop (mkF m 210 #[vL u0, vS, vL u1, vS, vL u2, vS, vL u3, vS, vL u4, vS, vI u5, vI ln, vI stt, vI (stt + ln), vR a2, vR a9, vL ((own_le8 g2_7 (stt + ((0 : Int32) * (8 : Int32))) (ln % (8 : Int32))) ||| (ln.toInt64 <<< ((56 : Int32) &&& 0x3f).toInt64)), vS, vU, vU, vU, vU] []))
    refine own_aload X22 hx (hb hby at_210) rfl rfl (pc' := 212) rfl ?_
    refine own_iconst X22 hx (hb hby at_212) (z := (2 : Int32)) rfl (pc' := 213) rfl ?_
    refine own_dup2 X22 hx (hb hby at_213) rfl rfl (pc' := 214) rfl ?_
    refine own_laload X22 hx hZ rfl p22_0 (x := (own_comp ((own_le8 g2_7 (stt + ((0 : Int32) * (8 : Int32))) (ln % (8 : Int32))) ||| (ln.toInt64 <<< ((56 : Int32) &&& 0x3f).toInt64)) ((u0 ^^^ (8317987319222330741 : Int64)), (u1 ^^^ (7237128888997146477 : Int64)), (u0 ^^^ (7816392313619706465 : Int64)), (u1 ^^^ (8387220255154660723 : Int64)))).2.2.1) (by decide) rfl (hb hby at_214) (pc' := 215) rfl ?_
    refine own_ldc2 X22 hx hZ hown (ow_26 hw) (hb hby at_215) (pc' := 218) rfl ?_
    refine own_lxor X22 hx (hb hby at_218) (pc' := 219) rfl ?_
    refine own_lastore X22 hx hZ rfl (g' := (own_LJ [(own_comp ((own_le8 g2_7 (stt + ((0 : Int32) * (8 : Int32))) (ln % (8 : Int32))) ||| (ln.toInt64 <<< ((56 : Int32) &&& 0x3f).toInt64)) ((u0 ^^^ (8317987319222330741 : Int64)), (u1 ^^^ (7237128888997146477 : Int64)), (u0 ^^^ (7816392313619706465 : Int64)), (u1 ^^^ (8387220255154660723 : Int64)))).1, (own_comp ((own_le8 g2_7 (stt + ((0 : Int32) * (8 : Int32))) (ln % (8 : Int32))) ||| (ln.toInt64 <<< ((56 : Int32) &&& 0x3f).toInt64)) ((u0 ^^^ (8317987319222330741 : Int64)), (u1 ^^^ (7237128888997146477 : Int64)), (u0 ^^^ (7816392313619706465 : Int64)), (u1 ^^^ (8387220255154660723 : Int64)))).2.1, (((own_comp ((own_le8 g2_7 (stt + ((0 : Int32) * (8 : Int32))) (ln % (8 : Int32))) ||| (ln.toInt64 <<< ((56 : Int32) &&& 0x3f).toInt64)) ((u0 ^^^ (8317987319222330741 : Int64)), (u1 ^^^ (7237128888997146477 : Int64)), (u0 ^^^ (7816392313619706465 : Int64)), (u1 ^^^ (8387220255154660723 : Int64)))).2.2.1) ^^^ (255 : Int64)), (own_comp ((own_le8 g2_7 (stt + ((0 : Int32) * (8 : Int32))) (ln % (8 : Int32))) ||| (ln.toInt64 <<< ((56 : Int32) &&& 0x3f).toInt64)) ((u0 ^^^ (8317987319222330741 : Int64)), (u1 ^^^ (7237128888997146477 : Int64)), (u0 ^^^ (7816392313619706465 : Int64)), (u1 ^^^ (8387220255154660723 : Int64)))).2.2.2])) p22_0 (x' := (((own_comp ((own_le8 g2_7 (stt + ((0 : Int32) * (8 : Int32))) (ln % (8 : Int32))) ||| (ln.toInt64 <<< ((56 : Int32) &&& 0x3f).toInt64)) ((u0 ^^^ (8317987319222330741 : Int64)), (u1 ^^^ (7237128888997146477 : Int64)), (u0 ^^^ (7816392313619706465 : Int64)), (u1 ^^^ (8387220255154660723 : Int64)))).2.2.1) ^^^ (255 : Int64))) (by decide) rfl (fun i _ => own_LJ_set [(own_comp ((own_le8 g2_7 (stt + ((0 : Int32) * (8 : Int32))) (ln % (8 : Int32))) ||| (ln.toInt64 <<< ((56 : Int32) &&& 0x3f).toInt64)) ((u0 ^^^ (8317987319222330741 : Int64)), (u1 ^^^ (7237128888997146477 : Int64)), (u0 ^^^ (7816392313619706465 : Int64)), (u1 ^^^ (8387220255154660723 : Int64)))).1, (own_comp ((own_le8 g2_7 (stt + ((0 : Int32) * (8 : Int32))) (ln % (8 : Int32))) ||| (ln.toInt64 <<< ((56 : Int32) &&& 0x3f).toInt64)) ((u0 ^^^ (8317987319222330741 : Int64)), (u1 ^^^ (7237128888997146477 : Int64)), (u0 ^^^ (7816392313619706465 : Int64)), (u1 ^^^ (8387220255154660723 : Int64)))).2.1, (own_comp ((own_le8 g2_7 (stt + ((0 : Int32) * (8 : Int32))) (ln % (8 : Int32))) ||| (ln.toInt64 <<< ((56 : Int32) &&& 0x3f).toInt64)) ((u0 ^^^ (8317987319222330741 : Int64)), (u1 ^^^ (7237128888997146477 : Int64)), (u0 ^^^ (7816392313619706465 : Int64)), (u1 ^^^ (8387220255154660723 : Int64)))).2.2.1, (own_comp ((own_le8 g2_7 (stt + ((0 : Int32) * (8 : Int32))) (ln % (8 : Int32))) ||| (ln.toInt64 <<< ((56 : Int32) &&& 0x3f).toInt64)) ((u0 ^^^ (8317987319222330741 : Int64)), (u1 ^^^ (7237128888997146477 : Int64)), (u0 ^^^ (7816392313619706465 : Int64)), (u1 ^^^ (8387220255154660723 : Int64)))).2.2.2] 2 (((own_comp ((own_le8 g2_7 (stt + ((0 : Int32) * (8 : Int32))) (ln % (8 : Int32))) ||| (ln.toInt64 <<< ((56 : Int32) &&& 0x3f).toInt64)) ((u0 ^^^ (8317987319222330741 : Int64)), (u1 ^^^ (7237128888997146477 : Int64)), (u0 ^^^ (7816392313619706465 : Int64)), (u1 ^^^ (8387220255154660723 : Int64)))).2.2.1) ^^^ (255 : Int64)) (by simp) i) (hb hby at_219) (pc' := 220) rfl ?_
    intro T23 h23 X23 e23 W23 A23
    have N23 := Fr.snoc X23 N22 ge_a9
    refine own_aload X23 hx (hb hby at_220) rfl rfl (pc' := 222) rfl ?_
    have z25 : n0 ≤ h23.size := (Nat.le_trans (Nat.le_trans z21 K22.1) (Nat.le_of_eq (Wr.size W23).symm))
    refine own_callS X23 hx hZ hown (ow_20 hw) (ow_21 hw) (ow_7 hw) (ow_22 hw) (by decide) (rm_round l Z a0 hw a9 ((own_comp ((own_le8 g2_7 (stt + ((0 : Int32) * (8 : Int32))) (ln % (8 : Int32))) ||| (ln.toInt64 <<< ((56 : Int32) &&& 0x3f).toInt64)) ((u0 ^^^ (8317987319222330741 : Int64)), (u1 ^^^ (7237128888997146477 : Int64)), (u0 ^^^ (7816392313619706465 : Int64)), (u1 ^^^ (8387220255154660723 : Int64)))).1, (own_comp ((own_le8 g2_7 (stt + ((0 : Int32) * (8 : Int32))) (ln % (8 : Int32))) ||| (ln.toInt64 <<< ((56 : Int32) &&& 0x3f).toInt64)) ((u0 ^^^ (8317987319222330741 : Int64)), (u1 ^^^ (7237128888997146477 : Int64)), (u0 ^^^ (7816392313619706465 : Int64)), (u1 ^^^ (8387220255154660723 : Int64)))).2.1, (((own_comp ((own_le8 g2_7 (stt + ((0 : Int32) * (8 : Int32))) (ln % (8 : Int32))) ||| (ln.toInt64 <<< ((56 : Int32) &&& 0x3f).toInt64)) ((u0 ^^^ (8317987319222330741 : Int64)), (u1 ^^^ (7237128888997146477 : Int64)), (u0 ^^^ (7816392313619706465 : Int64)), (u1 ^^^ (8387220255154660723 : Int64)))).2.2.1) ^^^ (255 : Int64)), (own_comp ((own_le8 g2_7 (stt + ((0 : Int32) * (8 : Int32))) (ln % (8 : Int32))) ||| (ln.toInt64 <<< ((56 : Int32) &&& 0x3f).toInt64)) ((u0 ^^^ (8317987319222330741 : Int64)), (u1 ^^^ (7237128888997146477 : Int64)), (u0 ^^^ (7816392313619706465 : Int64)), (u1 ^^^ (8387220255154660723 : Int64)))).2.2.2) h23 n0 z25 A23 ge_a9) e23 (W := 0) (by decide) (by decide) opd___J_V rfl (rest := []) rfl (hb hby at_222) (Nat.le_of_eq rfl) (by rw [hml]; rfl) (by decide) (by decide) (pc' := 225) rfl ?_
    intro v24 T24 L24 X24 q24
    obtain ⟨rfl, Nq24, K24, p24_0⟩ := q24
    have N24 := Fr.app N23 Nq24
    show own_G p e below s _ _ _ (T24.setTop (mkF m 225 #[vL u0, vS, vL u1, vS, vL u2, vS, vL u3, vS, vL u4, vS, vI u5, vI ln, vI stt, vI (stt + ln), vR a2, vR a9, vL ((own_le8 g2_7 (stt + ((0 : Int32) * (8 : Int32))) (ln % (8 : Int32))) ||| (ln.toInt64 <<< ((56 : Int32) &&& 0x3f).toInt64)), vS, vU, vU, vU, vU] []))
    refine own_aload X24 hx (hb hby at_225) rfl rfl (pc' := 227) rfl ?_
    have z27 : n0 ≤ T24.heap.size := (Nat.le_trans z25 K24.1)
    refine own_callS X24 hx hZ hown (ow_20 hw) (ow_21 hw) (ow_7 hw) (ow_22 hw) (by decide) (rm_round l Z a0 hw a9 (own_round ((own_comp ((own_le8 g2_7 (stt + ((0 : Int32) * (8 : Int32))) (ln % (8 : Int32))) ||| (ln.toInt64 <<< ((56 : Int32) &&& 0x3f).toInt64)) ((u0 ^^^ (8317987319222330741 : Int64)), (u1 ^^^ (7237128888997146477 : Int64)), (u0 ^^^ (7816392313619706465 : Int64)), (u1 ^^^ (8387220255154660723 : Int64)))).1, (own_comp ((own_le8 g2_7 (stt + ((0 : Int32) * (8 : Int32))) (ln % (8 : Int32))) ||| (ln.toInt64 <<< ((56 : Int32) &&& 0x3f).toInt64)) ((u0 ^^^ (8317987319222330741 : Int64)), (u1 ^^^ (7237128888997146477 : Int64)), (u0 ^^^ (7816392313619706465 : Int64)), (u1 ^^^ (8387220255154660723 : Int64)))).2.1, (((own_comp ((own_le8 g2_7 (stt + ((0 : Int32) * (8 : Int32))) (ln % (8 : Int32))) ||| (ln.toInt64 <<< ((56 : Int32) &&& 0x3f).toInt64)) ((u0 ^^^ (8317987319222330741 : Int64)), (u1 ^^^ (7237128888997146477 : Int64)), (u0 ^^^ (7816392313619706465 : Int64)), (u1 ^^^ (8387220255154660723 : Int64)))).2.2.1) ^^^ (255 : Int64)), (own_comp ((own_le8 g2_7 (stt + ((0 : Int32) * (8 : Int32))) (ln % (8 : Int32))) ||| (ln.toInt64 <<< ((56 : Int32) &&& 0x3f).toInt64)) ((u0 ^^^ (8317987319222330741 : Int64)), (u1 ^^^ (7237128888997146477 : Int64)), (u0 ^^^ (7816392313619706465 : Int64)), (u1 ^^^ (8387220255154660723 : Int64)))).2.2.2)) T24.heap n0 z27 p24_0 ge_a9) rfl (W := 0) (by decide) (by decide) opd___J_V rfl (rest := []) rfl (hb hby at_227) (Nat.le_of_eq rfl) (by rw [hml]; rfl) (by decide) (by decide) (pc' := 230) rfl ?_
    intro v26 T26 L26 X26 q26
    obtain ⟨rfl, Nq26, K26, p26_0⟩ := q26
    have N26 := Fr.app N24 Nq26
    show own_G p e below s _ _ _ (T26.setTop (mkF m 230 #[vL u0, vS, vL u1, vS, vL u2, vS, vL u3, vS, vL u4, vS, vI u5, vI ln, vI stt, vI (stt + ln), vR a2, vR a9, vL ((own_le8 g2_7 (stt + ((0 : Int32) * (8 : Int32))) (ln % (8 : Int32))) ||| (ln.toInt64 <<< ((56 : Int32) &&& 0x3f).toInt64)), vS, vU, vU, vU, vU] []))
    refine own_aload X26 hx (hb hby at_230) rfl rfl (pc' := 232) rfl ?_
    have z29 : n0 ≤ T26.heap.size := (Nat.le_trans z27 K26.1)
    refine own_callS X26 hx hZ hown (ow_20 hw) (ow_21 hw) (ow_7 hw) (ow_22 hw) (by decide) (rm_round l Z a0 hw a9 (own_round (own_round ((own_comp ((own_le8 g2_7 (stt + ((0 : Int32) * (8 : Int32))) (ln % (8 : Int32))) ||| (ln.toInt64 <<< ((56 : Int32) &&& 0x3f).toInt64)) ((u0 ^^^ (8317987319222330741 : Int64)), (u1 ^^^ (7237128888997146477 : Int64)), (u0 ^^^ (7816392313619706465 : Int64)), (u1 ^^^ (8387220255154660723 : Int64)))).1, (own_comp ((own_le8 g2_7 (stt + ((0 : Int32) * (8 : Int32))) (ln % (8 : Int32))) ||| (ln.toInt64 <<< ((56 : Int32) &&& 0x3f).toInt64)) ((u0 ^^^ (8317987319222330741 : Int64)), (u1 ^^^ (7237128888997146477 : Int64)), (u0 ^^^ (7816392313619706465 : Int64)), (u1 ^^^ (8387220255154660723 : Int64)))).2.1, (((own_comp ((own_le8 g2_7 (stt + ((0 : Int32) * (8 : Int32))) (ln % (8 : Int32))) ||| (ln.toInt64 <<< ((56 : Int32) &&& 0x3f).toInt64)) ((u0 ^^^ (8317987319222330741 : Int64)), (u1 ^^^ (7237128888997146477 : Int64)), (u0 ^^^ (7816392313619706465 : Int64)), (u1 ^^^ (8387220255154660723 : Int64)))).2.2.1) ^^^ (255 : Int64)), (own_comp ((own_le8 g2_7 (stt + ((0 : Int32) * (8 : Int32))) (ln % (8 : Int32))) ||| (ln.toInt64 <<< ((56 : Int32) &&& 0x3f).toInt64)) ((u0 ^^^ (8317987319222330741 : Int64)), (u1 ^^^ (7237128888997146477 : Int64)), (u0 ^^^ (7816392313619706465 : Int64)), (u1 ^^^ (8387220255154660723 : Int64)))).2.2.2))) T26.heap n0 z29 p26_0 ge_a9) rfl (W := 0) (by decide) (by decide) opd___J_V rfl (rest := []) rfl (hb hby at_232) (Nat.le_of_eq rfl) (by rw [hml]; rfl) (by decide) (by decide) (pc' := 235) rfl ?_
    intro v28 T28 L28 X28 q28
    obtain ⟨rfl, Nq28, K28, p28_0⟩ := q28
    have N28 := Fr.app N26 Nq28
    show own_G p e below s _ _ _ (T28.setTop (mkF m 235 #[vL u0, vS, vL u1, vS, vL u2, vS, vL u3, vS, vL u4, vS, vI u5, vI ln, vI stt, vI (stt + ln), vR a2, vR a9, vL ((own_le8 g2_7 (stt + ((0 : Int32) * (8 : Int32))) (ln % (8 : Int32))) ||| (ln.toInt64 <<< ((56 : Int32) &&& 0x3f).toInt64)), vS, vU, vU, vU, vU] []))
    refine own_aload X28 hx (hb hby at_235) rfl rfl (pc' := 237) rfl ?_
    refine own_iconst X28 hx (hb hby at_237) (z := (0 : Int32)) rfl (pc' := 238) rfl ?_
    refine own_laload X28 hx hZ rfl p28_0 (x := (own_round (own_round (own_round ((own_comp ((own_le8 g2_7 (stt + ((0 : Int32) * (8 : Int32))) (ln % (8 : Int32))) ||| (ln.toInt64 <<< ((56 : Int32) &&& 0x3f).toInt64)) ((u0 ^^^ (8317987319222330741 : Int64)), (u1 ^^^ (7237128888997146477 : Int64)), (u0 ^^^ (7816392313619706465 : Int64)), (u1 ^^^ (8387220255154660723 : Int64)))).1, (own_comp ((own_le8 g2_7 (stt + ((0 : Int32) * (8 : Int32))) (ln % (8 : Int32))) ||| (ln.toInt64 <<< ((56 : Int32) &&& 0x3f).toInt64)) ((u0 ^^^ (8317987319222330741 : Int64)), (u1 ^^^ (7237128888997146477 : Int64)), (u0 ^^^ (7816392313619706465 : Int64)), (u1 ^^^ (8387220255154660723 : Int64)))).2.1, (((own_comp ((own_le8 g2_7 (stt + ((0 : Int32) * (8 : Int32))) (ln % (8 : Int32))) ||| (ln.toInt64 <<< ((56 : Int32) &&& 0x3f).toInt64)) ((u0 ^^^ (8317987319222330741 : Int64)), (u1 ^^^ (7237128888997146477 : Int64)), (u0 ^^^ (7816392313619706465 : Int64)), (u1 ^^^ (8387220255154660723 : Int64)))).2.2.1) ^^^ (255 : Int64)), (own_comp ((own_le8 g2_7 (stt + ((0 : Int32) * (8 : Int32))) (ln % (8 : Int32))) ||| (ln.toInt64 <<< ((56 : Int32) &&& 0x3f).toInt64)) ((u0 ^^^ (8317987319222330741 : Int64)), (u1 ^^^ (7237128888997146477 : Int64)), (u0 ^^^ (7816392313619706465 : Int64)), (u1 ^^^ (8387220255154660723 : Int64)))).2.2.2)))).1) (by decide) rfl (hb hby at_238) (pc' := 239) rfl ?_
    refine own_aload X28 hx (hb hby at_239) rfl rfl (pc' := 241) rfl ?_
    refine own_iconst X28 hx (hb hby at_241) (z := (1 : Int32)) rfl (pc' := 242) rfl ?_
    refine own_laload X28 hx hZ rfl p28_0 (x := (own_round (own_round (own_round ((own_comp ((own_le8 g2_7 (stt + ((0 : Int32) * (8 : Int32))) (ln % (8 : Int32))) ||| (ln.toInt64 <<< ((56 : Int32) &&& 0x3f).toInt64)) ((u0 ^^^ (8317987319222330741 : Int64)), (u1 ^^^ (7237128888997146477 : Int64)), (u0 ^^^ (7816392313619706465 : Int64)), (u1 ^^^ (8387220255154660723 : Int64)))).1, (own_comp ((own_le8 g2_7 (stt + ((0 : Int32) * (8 : Int32))) (ln % (8 : Int32))) ||| (ln.toInt64 <<< ((56 : Int32) &&& 0x3f).toInt64)) ((u0 ^^^ (8317987319222330741 : Int64)), (u1 ^^^ (7237128888997146477 : Int64)), (u0 ^^^ (7816392313619706465 : Int64)), (u1 ^^^ (8387220255154660723 : Int64)))).2.1, (((own_comp ((own_le8 g2_7 (stt + ((0 : Int32) * (8 : Int32))) (ln % (8 : Int32))) ||| (ln.toInt64 <<< ((56 : Int32) &&& 0x3f).toInt64)) ((u0 ^^^ (8317987319222330741 : Int64)), (u1 ^^^ (7237128888997146477 : Int64)), (u0 ^^^ (7816392313619706465 : Int64)), (u1 ^^^ (8387220255154660723 : Int64)))).2.2.1) ^^^ (255 : Int64)), (own_comp ((own_le8 g2_7 (stt + ((0 : Int32) * (8 : Int32))) (ln % (8 : Int32))) ||| (ln.toInt64 <<< ((56 : Int32) &&& 0x3f).toInt64)) ((u0 ^^^ (8317987319222330741 : Int64)), (u1 ^^^ (7237128888997146477 : Int64)), (u0 ^^^ (7816392313619706465 : Int64)), (u1 ^^^ (8387220255154660723 : Int64)))).2.2.2)))).2.1) (by decide) rfl (hb hby at_242) (pc' := 243) rfl ?_
    refine own_lxor X28 hx (hb hby at_243) (pc' := 244) rfl ?_
    refine own_aload X28 hx (hb hby at_244) rfl rfl (pc' := 246) rfl ?_
    refine own_iconst X28 hx (hb hby at_246) (z := (2 : Int32)) rfl (pc' := 247) rfl ?_
    refine own_laload X28 hx hZ rfl p28_0 (x := (own_round (own_round (own_round ((own_comp ((own_le8 g2_7 (stt + ((0 : Int32) * (8 : Int32))) (ln % (8 : Int32))) ||| (ln.toInt64 <<< ((56 : Int32) &&& 0x3f).toInt64)) ((u0 ^^^ (8317987319222330741 : Int64)), (u1 ^^^ (7237128888997146477 : Int64)), (u0 ^^^ (7816392313619706465 : Int64)), (u1 ^^^ (8387220255154660723 : Int64)))).1, (own_comp ((own_le8 g2_7 (stt + ((0 : Int32) * (8 : Int32))) (ln % (8 : Int32))) ||| (ln.toInt64 <<< ((56 : Int32) &&& 0x3f).toInt64)) ((u0 ^^^ (8317987319222330741 : Int64)), (u1 ^^^ (7237128888997146477 : Int64)), (u0 ^^^ (7816392313619706465 : Int64)), (u1 ^^^ (8387220255154660723 : Int64)))).2.1, (((own_comp ((own_le8 g2_7 (stt + ((0 : Int32) * (8 : Int32))) (ln % (8 : Int32))) ||| (ln.toInt64 <<< ((56 : Int32) &&& 0x3f).toInt64)) ((u0 ^^^ (8317987319222330741 : Int64)), (u1 ^^^ (7237128888997146477 : Int64)), (u0 ^^^ (7816392313619706465 : Int64)), (u1 ^^^ (8387220255154660723 : Int64)))).2.2.1) ^^^ (255 : Int64)), (own_comp ((own_le8 g2_7 (stt + ((0 : Int32) * (8 : Int32))) (ln % (8 : Int32))) ||| (ln.toInt64 <<< ((56 : Int32) &&& 0x3f).toInt64)) ((u0 ^^^ (8317987319222330741 : Int64)), (u1 ^^^ (7237128888997146477 : Int64)), (u0 ^^^ (7816392313619706465 : Int64)), (u1 ^^^ (8387220255154660723 : Int64)))).2.2.2)))).2.2.1) (by decide) rfl (hb hby at_247) (pc' := 248) rfl ?_
    refine own_lxor X28 hx (hb hby at_248) (pc' := 249) rfl ?_
    refine own_aload X28 hx (hb hby at_249) rfl rfl (pc' := 251) rfl ?_
    refine own_iconst X28 hx (hb hby at_251) (z := (3 : Int32)) rfl (pc' := 252) rfl ?_
    refine own_laload X28 hx hZ rfl p28_0 (x := (own_round (own_round (own_round ((own_comp ((own_le8 g2_7 (stt + ((0 : Int32) * (8 : Int32))) (ln % (8 : Int32))) ||| (ln.toInt64 <<< ((56 : Int32) &&& 0x3f).toInt64)) ((u0 ^^^ (8317987319222330741 : Int64)), (u1 ^^^ (7237128888997146477 : Int64)), (u0 ^^^ (7816392313619706465 : Int64)), (u1 ^^^ (8387220255154660723 : Int64)))).1, (own_comp ((own_le8 g2_7 (stt + ((0 : Int32) * (8 : Int32))) (ln % (8 : Int32))) ||| (ln.toInt64 <<< ((56 : Int32) &&& 0x3f).toInt64)) ((u0 ^^^ (8317987319222330741 : Int64)), (u1 ^^^ (7237128888997146477 : Int64)), (u0 ^^^ (7816392313619706465 : Int64)), (u1 ^^^ (8387220255154660723 : Int64)))).2.1, (((own_comp ((own_le8 g2_7 (stt + ((0 : Int32) * (8 : Int32))) (ln % (8 : Int32))) ||| (ln.toInt64 <<< ((56 : Int32) &&& 0x3f).toInt64)) ((u0 ^^^ (8317987319222330741 : Int64)), (u1 ^^^ (7237128888997146477 : Int64)), (u0 ^^^ (7816392313619706465 : Int64)), (u1 ^^^ (8387220255154660723 : Int64)))).2.2.1) ^^^ (255 : Int64)), (own_comp ((own_le8 g2_7 (stt + ((0 : Int32) * (8 : Int32))) (ln % (8 : Int32))) ||| (ln.toInt64 <<< ((56 : Int32) &&& 0x3f).toInt64)) ((u0 ^^^ (8317987319222330741 : Int64)), (u1 ^^^ (7237128888997146477 : Int64)), (u0 ^^^ (7816392313619706465 : Int64)), (u1 ^^^ (8387220255154660723 : Int64)))).2.2.2)))).2.2.2) (by decide) rfl (hb hby at_252) (pc' := 253) rfl ?_
    refine own_lxor X28 hx (hb hby at_253) (pc' := 254) rfl ?_
    refine own_lstore X28 hx (hb hby at_254) (l' := #[vL u0, vS, vL u1, vS, vL u2, vS, vL u3, vS, vL u4, vS, vI u5, vI ln, vI stt, vI (stt + ln), vR a2, vR a9, vL ((own_le8 g2_7 (stt + ((0 : Int32) * (8 : Int32))) (ln % (8 : Int32))) ||| (ln.toInt64 <<< ((56 : Int32) &&& 0x3f).toInt64)), vS, vL (((((own_round (own_round (own_round ((own_comp ((own_le8 g2_7 (stt + ((0 : Int32) * (8 : Int32))) (ln % (8 : Int32))) ||| (ln.toInt64 <<< ((56 : Int32) &&& 0x3f).toInt64)) ((u0 ^^^ (8317987319222330741 : Int64)), (u1 ^^^ (7237128888997146477 : Int64)), (u0 ^^^ (7816392313619706465 : Int64)), (u1 ^^^ (8387220255154660723 : Int64)))).1, (own_comp ((own_le8 g2_7 (stt + ((0 : Int32) * (8 : Int32))) (ln % (8 : Int32))) ||| (ln.toInt64 <<< ((56 : Int32) &&& 0x3f).toInt64)) ((u0 ^^^ (8317987319222330741 : Int64)), (u1 ^^^ (7237128888997146477 : Int64)), (u0 ^^^ (7816392313619706465 : Int64)), (u1 ^^^ (8387220255154660723 : Int64)))).2.1, (((own_comp ((own_le8 g2_7 (stt + ((0 : Int32) * (8 : Int32))) (ln % (8 : Int32))) ||| (ln.toInt64 <<< ((56 : Int32) &&& 0x3f).toInt64)) ((u0 ^^^ (8317987319222330741 : Int64)), (u1 ^^^ (7237128888997146477 : Int64)), (u0 ^^^ (7816392313619706465 : Int64)), (u1 ^^^ (8387220255154660723 : Int64)))).2.2.1) ^^^ (255 : Int64)), (own_comp ((own_le8 g2_7 (stt + ((0 : Int32) * (8 : Int32))) (ln % (8 : Int32))) ||| (ln.toInt64 <<< ((56 : Int32) &&& 0x3f).toInt64)) ((u0 ^^^ (8317987319222330741 : Int64)), (u1 ^^^ (7237128888997146477 : Int64)), (u0 ^^^ (7816392313619706465 : Int64)), (u1 ^^^ (8387220255154660723 : Int64)))).2.2.2)))).1) ^^^ ((own_round (own_round (own_round ((own_comp ((own_le8 g2_7 (stt + ((0 : Int32) * (8 : Int32))) (ln % (8 : Int32))) ||| (ln.toInt64 <<< ((56 : Int32) &&& 0x3f).toInt64)) ((u0 ^^^ (8317987319222330741 : Int64)), (u1 ^^^ (7237128888997146477 : Int64)), (u0 ^^^ (7816392313619706465 : Int64)), (u1 ^^^ (8387220255154660723 : Int64)))).1, (own_comp ((own_le8 g2_7 (stt + ((0 : Int32) * (8 : Int32))) (ln % (8 : Int32))) ||| (ln.toInt64 <<< ((56 : Int32) &&& 0x3f).toInt64)) ((u0 ^^^ (8317987319222330741 : Int64)), (u1 ^^^ (7237128888997146477 : Int64)), (u0 ^^^ (7816392313619706465 : Int64)), (u1 ^^^ (8387220255154660723 : Int64)))).2.1, (((own_comp ((own_le8 g2_7 (stt + ((0 : Int32) * (8 : Int32))) (ln % (8 : Int32))) ||| (ln.toInt64 <<< ((56 : Int32) &&& 0x3f).toInt64)) ((u0 ^^^ (8317987319222330741 : Int64)), (u1 ^^^ (7237128888997146477 : Int64)), (u0 ^^^ (7816392313619706465 : Int64)), (u1 ^^^ (8387220255154660723 : Int64)))).2.2.1) ^^^ (255 : Int64)), (own_comp ((own_le8 g2_7 (stt + ((0 : Int32) * (8 : Int32))) (ln % (8 : Int32))) ||| (ln.toInt64 <<< ((56 : Int32) &&& 0x3f).toInt64)) ((u0 ^^^ (8317987319222330741 : Int64)), (u1 ^^^ (7237128888997146477 : Int64)), (u0 ^^^ (7816392313619706465 : Int64)), (u1 ^^^ (8387220255154660723 : Int64)))).2.2.2)))).2.1)) ^^^ ((own_round (own_round (own_round ((own_comp ((own_le8 g2_7 (stt + ((0 : Int32) * (8 : Int32))) (ln % (8 : Int32))) ||| (ln.toInt64 <<< ((56 : Int32) &&& 0x3f).toInt64)) ((u0 ^^^ (8317987319222330741 : Int64)), (u1 ^^^ (7237128888997146477 : Int64)), (u0 ^^^ (7816392313619706465 : Int64)), (u1 ^^^ (8387220255154660723 : Int64)))).1, (own_comp ((own_le8 g2_7 (stt + ((0 : Int32) * (8 : Int32))) (ln % (8 : Int32))) ||| (ln.toInt64 <<< ((56 : Int32) &&& 0x3f).toInt64)) ((u0 ^^^ (8317987319222330741 : Int64)), (u1 ^^^ (7237128888997146477 : Int64)), (u0 ^^^ (7816392313619706465 : Int64)), (u1 ^^^ (8387220255154660723 : Int64)))).2.1, (((own_comp ((own_le8 g2_7 (stt + ((0 : Int32) * (8 : Int32))) (ln % (8 : Int32))) ||| (ln.toInt64 <<< ((56 : Int32) &&& 0x3f).toInt64)) ((u0 ^^^ (8317987319222330741 : Int64)), (u1 ^^^ (7237128888997146477 : Int64)), (u0 ^^^ (7816392313619706465 : Int64)), (u1 ^^^ (8387220255154660723 : Int64)))).2.2.1) ^^^ (255 : Int64)), (own_comp ((own_le8 g2_7 (stt + ((0 : Int32) * (8 : Int32))) (ln % (8 : Int32))) ||| (ln.toInt64 <<< ((56 : Int32) &&& 0x3f).toInt64)) ((u0 ^^^ (8317987319222330741 : Int64)), (u1 ^^^ (7237128888997146477 : Int64)), (u0 ^^^ (7816392313619706465 : Int64)), (u1 ^^^ (8387220255154660723 : Int64)))).2.2.2)))).2.2.1)) ^^^ ((own_round (own_round (own_round ((own_comp ((own_le8 g2_7 (stt + ((0 : Int32) * (8 : Int32))) (ln % (8 : Int32))) ||| (ln.toInt64 <<< ((56 : Int32) &&& 0x3f).toInt64)) ((u0 ^^^ (8317987319222330741 : Int64)), (u1 ^^^ (7237128888997146477 : Int64)), (u0 ^^^ (7816392313619706465 : Int64)), (u1 ^^^ (8387220255154660723 : Int64)))).1, (own_comp ((own_le8 g2_7 (stt + ((0 : Int32) * (8 : Int32))) (ln % (8 : Int32))) ||| (ln.toInt64 <<< ((56 : Int32) &&& 0x3f).toInt64)) ((u0 ^^^ (8317987319222330741 : Int64)), (u1 ^^^ (7237128888997146477 : Int64)), (u0 ^^^ (7816392313619706465 : Int64)), (u1 ^^^ (8387220255154660723 : Int64)))).2.1, (((own_comp ((own_le8 g2_7 (stt + ((0 : Int32) * (8 : Int32))) (ln % (8 : Int32))) ||| (ln.toInt64 <<< ((56 : Int32) &&& 0x3f).toInt64)) ((u0 ^^^ (8317987319222330741 : Int64)), (u1 ^^^ (7237128888997146477 : Int64)), (u0 ^^^ (7816392313619706465 : Int64)), (u1 ^^^ (8387220255154660723 : Int64)))).2.2.1) ^^^ (255 : Int64)), (own_comp ((own_le8 g2_7 (stt + ((0 : Int32) * (8 : Int32))) (ln % (8 : Int32))) ||| (ln.toInt64 <<< ((56 : Int32) &&& 0x3f).toInt64)) ((u0 ^^^ (8317987319222330741 : Int64)), (u1 ^^^ (7237128888997146477 : Int64)), (u0 ^^^ (7816392313619706465 : Int64)), (u1 ^^^ (8387220255154660723 : Int64)))).2.2.2)))).2.2.2)), vS, vU, vU]) rfl (pc' := 256) rfl ?_
    have z31 : n0 ≤ T28.heap.size := (Nat.le_trans z29 K28.1)
    have f32 : own_AI Z T28.heap a2 .byte (24 : Int32) g2_7 := (((((f20.keep K22 (ninS (Nat.ne_of_lt lt_a2_a9) nin0)).other W23 (Nat.ne_of_lt lt_a2_a9)).keep K24 (ninS (Nat.ne_of_lt lt_a2_a9) nin0)).keep K26 (ninS (Nat.ne_of_lt lt_a2_a9) nin0)).keep K28 (ninS (Nat.ne_of_lt lt_a2_a9) nin0))
    refine own_new X28 hx hZ hown (ow_27 hw) (ow_28 hw) (ow_29 hw) rfl (hb hby at_256) (pc' := 259) rfl (by decide) (by decide) ?_
    intro T30 h30 a30 g30 X30 e30 E30 A30 D30
    have lt_a2_a30 : a2 < a30 := by rw [g30]; exact f32.lt
    have lt_a9_a30 : a9 < a30 := by rw [g30]; exact p28_0.lt
    have ge_a30 : n0 ≤ a30 := by rw [g30]; exact z31
    have F30_key0 : Fld Z h30 a30 "com/example/structlane/structlane/header/SipHash" "key0" "J" (.long (0 : Int64)) := D30 (Or.inr (ow_37 hw)) (ty := .long) (by decide)
    have F30_key1 : Fld Z h30 a30 "com/example/structlane/structlane/header/SipHash" "key1" "J" (.long (0 : Int64)) := D30 (Or.inr (ow_39 hw)) (ty := .long) (by decide)
    refine own_dup X30 hx (hb hby at_259) rfl (pc' := 260) rfl ?_
    refine own_lloadN X30 hx (hb hby at_260) rfl (pc' := 261) rfl ?_
    refine own_lloadN X30 hx (hb hby at_261) rfl (pc' := 262) rfl ?_
    have z34 : n0 ≤ h30.size := (Nat.le_trans z31 E30.1)
    refine own_callC X30 hx hZ rfl hown (ow_30 hw) (ow_31 hw) (ow_29 hw) (ow_32 hw) (by decide) (rm_init l Z a0 hw a30 u0 u1 (.long (0 : Int64)) (.long (0 : Int64)) h30 n0 z34 A30 F30_key0 F30_key1 ge_a30) e30 (W := 1) (by decide) (by decide) opd__JJ_V rfl (rest := [(.ref a30)]) rfl (hb hby at_262) (Nat.le_of_eq rfl) (by rw [hml]; rfl) (by decide) (by decide) (pc' := 265) rfl ?_
    intro v33 T33 L33 X33 q33
    obtain ⟨rfl, Nq33, K33, p33_0, p33_1⟩ := q33
    have N33 := Fr.app N28 Nq33
    show own_G p e below s _ _ _ (T33.setTop (mkF m 265 #[vL u0, vS, vL u1, vS, vL u2, vS, vL u3, vS, vL u4, vS, vI u5, vI ln, vI stt, vI (stt + ln), vR a2, vR a9, vL ((own_le8 g2_7 (stt + ((0 : Int32) * (8 : Int32))) (ln % (8 : Int32))) ||| (ln.toInt64 <<< ((56 : Int32) &&& 0x3f).toInt64)), vS, vL (((((own_round (own_round (own_round ((own_comp ((own_le8 g2_7 (stt + ((0 : Int32) * (8 : Int32))) (ln % (8 : Int32))) ||| (ln.toInt64 <<< ((56 : Int32) &&& 0x3f).toInt64)) ((u0 ^^^ (8317987319222330741 : Int64)), (u1 ^^^ (7237128888997146477 : Int64)), (u0 ^^^ (7816392313619706465 : Int64)), (u1 ^^^ (8387220255154660723 : Int64)))).1, (own_comp ((own_le8 g2_7 (stt + ((0 : Int32) * (8 : Int32))) (ln % (8 : Int32))) ||| (ln.toInt64 <<< ((56 : Int32) &&& 0x3f).toInt64)) ((u0 ^^^ (8317987319222330741 : Int64)), (u1 ^^^ (7237128888997146477 : Int64)), (u0 ^^^ (7816392313619706465 : Int64)), (u1 ^^^ (8387220255154660723 : Int64)))).2.1, (((own_comp ((own_le8 g2_7 (stt + ((0 : Int32) * (8 : Int32))) (ln % (8 : Int32))) ||| (ln.toInt64 <<< ((56 : Int32) &&& 0x3f).toInt64)) ((u0 ^^^ (8317987319222330741 : Int64)), (u1 ^^^ (7237128888997146477 : Int64)), (u0 ^^^ (7816392313619706465 : Int64)), (u1 ^^^ (8387220255154660723 : Int64)))).2.2.1) ^^^ (255 : Int64)), (own_comp ((own_le8 g2_7 (stt + ((0 : Int32) * (8 : Int32))) (ln % (8 : Int32))) ||| (ln.toInt64 <<< ((56 : Int32) &&& 0x3f).toInt64)) ((u0 ^^^ (8317987319222330741 : Int64)), (u1 ^^^ (7237128888997146477 : Int64)), (u0 ^^^ (7816392313619706465 : Int64)), (u1 ^^^ (8387220255154660723 : Int64)))).2.2.2)))).1) ^^^ ((own_round (own_round (own_round ((own_comp ((own_le8 g2_7 (stt + ((0 : Int32) * (8 : Int32))) (ln % (8 : Int32))) ||| (ln.toInt64 <<< ((56 : Int32) &&& 0x3f).toInt64)) ((u0 ^^^ (8317987319222330741 : Int64)), (u1 ^^^ (7237128888997146477 : Int64)), (u0 ^^^ (7816392313619706465 : Int64)), (u1 ^^^ (8387220255154660723 : Int64)))).1, (own_comp ((own_le8 g2_7 (stt + ((0 : Int32) * (8 : Int32))) (ln % (8 : Int32))) ||| (ln.toInt64 <<< ((56 : Int32) &&& 0x3f).toInt64)) ((u0 ^^^ (8317987319222330741 : Int64)), (u1 ^^^ (7237128888997146477 : Int64)), (u0 ^^^ (7816392313619706465 : Int64)), (u1 ^^^ (8387220255154660723 : Int64)))).2.1, (((own_comp ((own_le8 g2_7 (stt + ((0 : Int32) * (8 : Int32))) (ln % (8 : Int32))) ||| (ln.toInt64 <<< ((56 : Int32) &&& 0x3f).toInt64)) ((u0 ^^^ (8317987319222330741 : Int64)), (u1 ^^^ (7237128888997146477 : Int64)), (u0 ^^^ (7816392313619706465 : Int64)), (u1 ^^^ (8387220255154660723 : Int64)))).2.2.1) ^^^ (255 : Int64)), (own_comp ((own_le8 g2_7 (stt + ((0 : Int32) * (8 : Int32))) (ln % (8 : Int32))) ||| (ln.toInt64 <<< ((56 : Int32) &&& 0x3f).toInt64)) ((u0 ^^^ (8317987319222330741 : Int64)), (u1 ^^^ (7237128888997146477 : Int64)), (u0 ^^^ (7816392313619706465 : Int64)), (u1 ^^^ (8387220255154660723 : Int64)))).2.2.2)))).2.1)) ^^^ ((own_round (own_round (own_round ((own_comp ((own_le8 g2_7 (stt + ((0 : Int32) * (8 : Int32))) (ln % (8 : Int32))) ||| (ln.toInt64 <<< ((56 : Int32) &&& 0x3f).toInt64)) ((u0 ^^^ (8317987319222330741 : Int64)), (u1 ^^^ (7237128888997146477 : Int64)), (u0 ^^^ (7816392313619706465 : Int64)), (u1 ^^^ (8387220255154660723 : Int64)))).1, (own_comp ((own_le8 g2_7 (stt + ((0 : Int32) * (8 : Int32))) (ln % (8 : Int32))) ||| (ln.toInt64 <<< ((56 : Int32) &&& 0x3f).toInt64)) ((u0 ^^^ (8317987319222330741 : Int64)), (u1 ^^^ (7237128888997146477 : Int64)), (u0 ^^^ (7816392313619706465 : Int64)), (u1 ^^^ (8387220255154660723 : Int64)))).2.1, (((own_comp ((own_le8 g2_7 (stt + ((0 : Int32) * (8 : Int32))) (ln % (8 : Int32))) ||| (ln.toInt64 <<< ((56 : Int32) &&& 0x3f).toInt64)) ((u0 ^^^ (8317987319222330741 : Int64)), (u1 ^^^ (7237128888997146477 : Int64)), (u0 ^^^ (7816392313619706465 : Int64)), (u1 ^^^ (8387220255154660723 : Int64)))).2.2.1) ^^^ (255 : Int64)), (own_comp ((own_le8 g2_7 (stt + ((0 : Int32) * (8 : Int32))) (ln % (8 : Int32))) ||| (ln.toInt64 <<< ((56 : Int32) &&& 0x3f).toInt64)) ((u0 ^^^ (8317987319222330741 : Int64)), (u1 ^^^ (7237128888997146477 : Int64)), (u0 ^^^ (7816392313619706465 : Int64)), (u1 ^^^ (8387220255154660723 : Int64)))).2.2.2)))).2.2.1)) ^^^ ((own_round (own_round (own_round ((own_comp ((own_le8 g2_7 (stt + ((0 : Int32) * (8 : Int32))) (ln % (8 : Int32))) ||| (ln.toInt64 <<< ((56 : Int32) &&& 0x3f).toInt64)) ((u0 ^^^ (8317987319222330741 : Int64)), (u1 ^^^ (7237128888997146477 : Int64)), (u0 ^^^ (7816392313619706465 : Int64)), (u1 ^^^ (8387220255154660723 : Int64)))).1, (own_comp ((own_le8 g2_7 (stt + ((0 : Int32) * (8 : Int32))) (ln % (8 : Int32))) ||| (ln.toInt64 <<< ((56 : Int32) &&& 0x3f).toInt64)) ((u0 ^^^ (8317987319222330741 : Int64)), (u1 ^^^ (7237128888997146477 : Int64)), (u0 ^^^ (7816392313619706465 : Int64)), (u1 ^^^ (8387220255154660723 : Int64)))).2.1, (((own_comp ((own_le8 g2_7 (stt + ((0 : Int32) * (8 : Int32))) (ln % (8 : Int32))) ||| (ln.toInt64 <<< ((56 : Int32) &&& 0x3f).toInt64)) ((u0 ^^^ (8317987319222330741 : Int64)), (u1 ^^^ (7237128888997146477 : Int64)), (u0 ^^^ (7816392313619706465 : Int64)), (u1 ^^^ (8387220255154660723 : Int64)))).2.2.1) ^^^ (255 : Int64)), (own_comp ((own_le8 g2_7 (stt + ((0 : Int32) * (8 : Int32))) (ln % (8 : Int32))) ||| (ln.toInt64 <<< ((56 : Int32) &&& 0x3f).toInt64)) ((u0 ^^^ (8317987319222330741 : Int64)), (u1 ^^^ (7237128888997146477 : Int64)), (u0 ^^^ (7816392313619706465 : Int64)), (u1 ^^^ (8387220255154660723 : Int64)))).2.2.2)))).2.2.2)), vS, vU, vU] [(.ref a30)]))
    refine own_aload X33 hx (hb hby at_265) rfl rfl (pc' := 267) rfl ?_
    refine own_iload X33 hx (hb hby at_267) rfl (pc' := 269) rfl ?_
    refine own_iload X33 hx (hb hby at_269) rfl (pc' := 271) rfl ?_
    have f36 : own_AI Z T33.heap a2 .byte (24 : Int32) g2_7 := ((f32.ext E30).keep K33 (ninS (Nat.ne_of_lt lt_a2_a30) nin0))
    have z37 : n0 ≤ T33.heap.size := (Nat.le_trans z34 K33.1)
    have f38 : Exa Z T33.heap a30 "com/example/structlane/structlane/header/SipHash" := (A30.keep K33)
    refine own_callV X33 hx hZ hown (ow_40 hw) (ow_41 hw) (ow_43 hw) (ow_42 hw) (ow_29 hw) (ow_44 hw) (by decide) f38 (rm_hash0 l Z a0 hw a30 a2 stt (stt + ln) u0 u1 g2_7 T33.heap n0 z37 p33_0 p33_1 f36 hS.1 (by have q := own_addk stt ln (by omega) (by omega); omega) (by rw [own_canc]; exact c15)) rfl (W := 0) (by decide) (by decide) opd___BII_J rfl (rest := []) rfl (hb hby at_271) (Nat.le_of_eq rfl) (by rw [hml]; rfl) (by decide) (by decide) (pc' := 274) rfl ?_
    intro v35 T35 L35 X35 q35
    obtain ⟨rfl, Nq35, eh35⟩ := q35
    have N35 := Fr.app N33 Nq35
    show own_G p e below s _ _ _ (T35.setTop (mkF m 274 #[vL u0, vS, vL u1, vS, vL u2, vS, vL u3, vS, vL u4, vS, vI u5, vI ln, vI stt, vI (stt + ln), vR a2, vR a9, vL ((own_le8 g2_7 (stt + ((0 : Int32) * (8 : Int32))) (ln % (8 : Int32))) ||| (ln.toInt64 <<< ((56 : Int32) &&& 0x3f).toInt64)), vS, vL (((((own_round (own_round (own_round ((own_comp ((own_le8 g2_7 (stt + ((0 : Int32) * (8 : Int32))) (ln % (8 : Int32))) ||| (ln.toInt64 <<< ((56 : Int32) &&& 0x3f).toInt64)) ((u0 ^^^ (8317987319222330741 : Int64)), (u1 ^^^ (7237128888997146477 : Int64)), (u0 ^^^ (7816392313619706465 : Int64)), (u1 ^^^ (8387220255154660723 : Int64)))).1, (own_comp ((own_le8 g2_7 (stt + ((0 : Int32) * (8 : Int32))) (ln % (8 : Int32))) ||| (ln.toInt64 <<< ((56 : Int32) &&& 0x3f).toInt64)) ((u0 ^^^ (8317987319222330741 : Int64)), (u1 ^^^ (7237128888997146477 : Int64)), (u0 ^^^ (7816392313619706465 : Int64)), (u1 ^^^ (8387220255154660723 : Int64)))).2.1, (((own_comp ((own_le8 g2_7 (stt + ((0 : Int32) * (8 : Int32))) (ln % (8 : Int32))) ||| (ln.toInt64 <<< ((56 : Int32) &&& 0x3f).toInt64)) ((u0 ^^^ (8317987319222330741 : Int64)), (u1 ^^^ (7237128888997146477 : Int64)), (u0 ^^^ (7816392313619706465 : Int64)), (u1 ^^^ (8387220255154660723 : Int64)))).2.2.1) ^^^ (255 : Int64)), (own_comp ((own_le8 g2_7 (stt + ((0 : Int32) * (8 : Int32))) (ln % (8 : Int32))) ||| (ln.toInt64 <<< ((56 : Int32) &&& 0x3f).toInt64)) ((u0 ^^^ (8317987319222330741 : Int64)), (u1 ^^^ (7237128888997146477 : Int64)), (u0 ^^^ (7816392313619706465 : Int64)), (u1 ^^^ (8387220255154660723 : Int64)))).2.2.2)))).1) ^^^ ((own_round (own_round (own_round ((own_comp ((own_le8 g2_7 (stt + ((0 : Int32) * (8 : Int32))) (ln % (8 : Int32))) ||| (ln.toInt64 <<< ((56 : Int32) &&& 0x3f).toInt64)) ((u0 ^^^ (8317987319222330741 : Int64)), (u1 ^^^ (7237128888997146477 : Int64)), (u0 ^^^ (7816392313619706465 : Int64)), (u1 ^^^ (8387220255154660723 : Int64)))).1, (own_comp ((own_le8 g2_7 (stt + ((0 : Int32) * (8 : Int32))) (ln % (8 : Int32))) ||| (ln.toInt64 <<< ((56 : Int32) &&& 0x3f).toInt64)) ((u0 ^^^ (8317987319222330741 : Int64)), (u1 ^^^ (7237128888997146477 : Int64)), (u0 ^^^ (7816392313619706465 : Int64)), (u1 ^^^ (8387220255154660723 : Int64)))).2.1, (((own_comp ((own_le8 g2_7 (stt + ((0 : Int32) * (8 : Int32))) (ln % (8 : Int32))) ||| (ln.toInt64 <<< ((56 : Int32) &&& 0x3f).toInt64)) ((u0 ^^^ (8317987319222330741 : Int64)), (u1 ^^^ (7237128888997146477 : Int64)), (u0 ^^^ (7816392313619706465 : Int64)), (u1 ^^^ (8387220255154660723 : Int64)))).2.2.1) ^^^ (255 : Int64)), (own_comp ((own_le8 g2_7 (stt + ((0 : Int32) * (8 : Int32))) (ln % (8 : Int32))) ||| (ln.toInt64 <<< ((56 : Int32) &&& 0x3f).toInt64)) ((u0 ^^^ (8317987319222330741 : Int64)), (u1 ^^^ (7237128888997146477 : Int64)), (u0 ^^^ (7816392313619706465 : Int64)), (u1 ^^^ (8387220255154660723 : Int64)))).2.2.2)))).2.1)) ^^^ ((own_round (own_round (own_round ((own_comp ((own_le8 g2_7 (stt + ((0 : Int32) * (8 : Int32))) (ln % (8 : Int32))) ||| (ln.toInt64 <<< ((56 : Int32) &&& 0x3f).toInt64)) ((u0 ^^^ (8317987319222330741 : Int64)), (u1 ^^^ (7237128888997146477 : Int64)), (u0 ^^^ (7816392313619706465 : Int64)), (u1 ^^^ (8387220255154660723 : Int64)))).1, (own_comp ((own_le8 g2_7 (stt + ((0 : Int32) * (8 : Int32))) (ln % (8 : Int32))) ||| (ln.toInt64 <<< ((56 : Int32) &&& 0x3f).toInt64)) ((u0 ^^^ (8317987319222330741 : Int64)), (u1 ^^^ (7237128888997146477 : Int64)), (u0 ^^^ (7816392313619706465 : Int64)), (u1 ^^^ (8387220255154660723 : Int64)))).2.1, (((own_comp ((own_le8 g2_7 (stt + ((0 : Int32) * (8 : Int32))) (ln % (8 : Int32))) ||| (ln.toInt64 <<< ((56 : Int32) &&& 0x3f).toInt64)) ((u0 ^^^ (8317987319222330741 : Int64)), (u1 ^^^ (7237128888997146477 : Int64)), (u0 ^^^ (7816392313619706465 : Int64)), (u1 ^^^ (8387220255154660723 : Int64)))).2.2.1) ^^^ (255 : Int64)), (own_comp ((own_le8 g2_7 (stt + ((0 : Int32) * (8 : Int32))) (ln % (8 : Int32))) ||| (ln.toInt64 <<< ((56 : Int32) &&& 0x3f).toInt64)) ((u0 ^^^ (8317987319222330741 : Int64)), (u1 ^^^ (7237128888997146477 : Int64)), (u0 ^^^ (7816392313619706465 : Int64)), (u1 ^^^ (8387220255154660723 : Int64)))).2.2.2)))).2.2.1)) ^^^ ((own_round (own_round (own_round ((own_comp ((own_le8 g2_7 (stt + ((0 : Int32) * (8 : Int32))) (ln % (8 : Int32))) ||| (ln.toInt64 <<< ((56 : Int32) &&& 0x3f).toInt64)) ((u0 ^^^ (8317987319222330741 : Int64)), (u1 ^^^ (7237128888997146477 : Int64)), (u0 ^^^ (7816392313619706465 : Int64)), (u1 ^^^ (8387220255154660723 : Int64)))).1, (own_comp ((own_le8 g2_7 (stt + ((0 : Int32) * (8 : Int32))) (ln % (8 : Int32))) ||| (ln.toInt64 <<< ((56 : Int32) &&& 0x3f).toInt64)) ((u0 ^^^ (8317987319222330741 : Int64)), (u1 ^^^ (7237128888997146477 : Int64)), (u0 ^^^ (7816392313619706465 : Int64)), (u1 ^^^ (8387220255154660723 : Int64)))).2.1, (((own_comp ((own_le8 g2_7 (stt + ((0 : Int32) * (8 : Int32))) (ln % (8 : Int32))) ||| (ln.toInt64 <<< ((56 : Int32) &&& 0x3f).toInt64)) ((u0 ^^^ (8317987319222330741 : Int64)), (u1 ^^^ (7237128888997146477 : Int64)), (u0 ^^^ (7816392313619706465 : Int64)), (u1 ^^^ (8387220255154660723 : Int64)))).2.2.1) ^^^ (255 : Int64)), (own_comp ((own_le8 g2_7 (stt + ((0 : Int32) * (8 : Int32))) (ln % (8 : Int32))) ||| (ln.toInt64 <<< ((56 : Int32) &&& 0x3f).toInt64)) ((u0 ^^^ (8317987319222330741 : Int64)), (u1 ^^^ (7237128888997146477 : Int64)), (u0 ^^^ (7816392313619706465 : Int64)), (u1 ^^^ (8387220255154660723 : Int64)))).2.2.2)))).2.2.2)), vS, vU, vU] [(.long (own_x4 (own_comp (0 : Int64) (own_comp (0 : Int64) (own_comp (0 : Int64) (own_ff (own_comp ((own_le8 g2_7 (stt + ((0 : Int32) * (8 : Int32))) ((stt + ln) - (stt + ((0 : Int32) * (8 : Int32))))) ||| (((stt + ln) - stt).toInt64 <<< ((56 : Int32) &&& 0x3f).toInt64)) ((u0 ^^^ (8317987319222330741 : Int64)), (u1 ^^^ (7237128888997146477 : Int64)), (u0 ^^^ (7816392313619706465 : Int64)), (u1 ^^^ (8387220255154660723 : Int64))))))))))]))
    refine own_lstore X35 hx (hb hby at_274) (l' := #[vL u0, vS, vL u1, vS, vL u2, vS, vL u3, vS, vL u4, vS, vI u5, vI ln, vI stt, vI (stt + ln), vR a2, vR a9, vL ((own_le8 g2_7 (stt + ((0 : Int32) * (8 : Int32))) (ln % (8 : Int32))) ||| (ln.toInt64 <<< ((56 : Int32) &&& 0x3f).toInt64)), vS, vL (((((own_round (own_round (own_round ((own_comp ((own_le8 g2_7 (stt + ((0 : Int32) * (8 : Int32))) (ln % (8 : Int32))) ||| (ln.toInt64 <<< ((56 : Int32) &&& 0x3f).toInt64)) ((u0 ^^^ (8317987319222330741 : Int64)), (u1 ^^^ (7237128888997146477 : Int64)), (u0 ^^^ (7816392313619706465 : Int64)), (u1 ^^^ (8387220255154660723 : Int64)))).1, (own_comp ((own_le8 g2_7 (stt + ((0 : Int32) * (8 : Int32))) (ln % (8 : Int32))) ||| (ln.toInt64 <<< ((56 : Int32) &&& 0x3f).toInt64)) ((u0 ^^^ (8317987319222330741 : Int64)), (u1 ^^^ (7237128888997146477 : Int64)), (u0 ^^^ (7816392313619706465 : Int64)), (u1 ^^^ (8387220255154660723 : Int64)))).2.1, (((own_comp ((own_le8 g2_7 (stt + ((0 : Int32) * (8 : Int32))) (ln % (8 : Int32))) ||| (ln.toInt64 <<< ((56 : Int32) &&& 0x3f).toInt64)) ((u0 ^^^ (8317987319222330741 : Int64)), (u1 ^^^ (7237128888997146477 : Int64)), (u0 ^^^ (7816392313619706465 : Int64)), (u1 ^^^ (8387220255154660723 : Int64)))).2.2.1) ^^^ (255 : Int64)), (own_comp ((own_le8 g2_7 (stt + ((0 : Int32) * (8 : Int32))) (ln % (8 : Int32))) ||| (ln.toInt64 <<< ((56 : Int32) &&& 0x3f).toInt64)) ((u0 ^^^ (8317987319222330741 : Int64)), (u1 ^^^ (7237128888997146477 : Int64)), (u0 ^^^ (7816392313619706465 : Int64)), (u1 ^^^ (8387220255154660723 : Int64)))).2.2.2)))).1) ^^^ ((own_round (own_round (own_round ((own_comp ((own_le8 g2_7 (stt + ((0 : Int32) * (8 : Int32))) (ln % (8 : Int32))) ||| (ln.toInt64 <<< ((56 : Int32) &&& 0x3f).toInt64)) ((u0 ^^^ (8317987319222330741 : Int64)), (u1 ^^^ (7237128888997146477 : Int64)), (u0 ^^^ (7816392313619706465 : Int64)), (u1 ^^^ (8387220255154660723 : Int64)))).1, (own_comp ((own_le8 g2_7 (stt + ((0 : Int32) * (8 : Int32))) (ln % (8 : Int32))) ||| (ln.toInt64 <<< ((56 : Int32) &&& 0x3f).toInt64)) ((u0 ^^^ (8317987319222330741 : Int64)), (u1 ^^^ (7237128888997146477 : Int64)), (u0 ^^^ (7816392313619706465 : Int64)), (u1 ^^^ (8387220255154660723 : Int64)))).2.1, (((own_comp ((own_le8 g2_7 (stt + ((0 : Int32) * (8 : Int32))) (ln % (8 : Int32))) ||| (ln.toInt64 <<< ((56 : Int32) &&& 0x3f).toInt64)) ((u0 ^^^ (8317987319222330741 : Int64)), (u1 ^^^ (7237128888997146477 : Int64)), (u0 ^^^ (7816392313619706465 : Int64)), (u1 ^^^ (8387220255154660723 : Int64)))).2.2.1) ^^^ (255 : Int64)), (own_comp ((own_le8 g2_7 (stt + ((0 : Int32) * (8 : Int32))) (ln % (8 : Int32))) ||| (ln.toInt64 <<< ((56 : Int32) &&& 0x3f).toInt64)) ((u0 ^^^ (8317987319222330741 : Int64)), (u1 ^^^ (7237128888997146477 : Int64)), (u0 ^^^ (7816392313619706465 : Int64)), (u1 ^^^ (8387220255154660723 : Int64)))).2.2.2)))).2.1)) ^^^ ((own_round (own_round (own_round ((own_comp ((own_le8 g2_7 (stt + ((0 : Int32) * (8 : Int32))) (ln % (8 : Int32))) ||| (ln.toInt64 <<< ((56 : Int32) &&& 0x3f).toInt64)) ((u0 ^^^ (8317987319222330741 : Int64)), (u1 ^^^ (7237128888997146477 : Int64)), (u0 ^^^ (7816392313619706465 : Int64)), (u1 ^^^ (8387220255154660723 : Int64)))).1, (own_comp ((own_le8 g2_7 (stt + ((0 : Int32) * (8 : Int32))) (ln % (8 : Int32))) ||| (ln.toInt64 <<< ((56 : Int32) &&& 0x3f).toInt64)) ((u0 ^^^ (8317987319222330741 : Int64)), (u1 ^^^ (7237128888997146477 : Int64)), (u0 ^^^ (7816392313619706465 : Int64)), (u1 ^^^ (8387220255154660723 : Int64)))).2.1, (((own_comp ((own_le8 g2_7 (stt + ((0 : Int32) * (8 : Int32))) (ln % (8 : Int32))) ||| (ln.toInt64 <<< ((56 : Int32) &&& 0x3f).toInt64)) ((u0 ^^^ (8317987319222330741 : Int64)), (u1 ^^^ (7237128888997146477 : Int64)), (u0 ^^^ (7816392313619706465 : Int64)), (u1 ^^^ (8387220255154660723 : Int64)))).2.2.1) ^^^ (255 : Int64)), (own_comp ((own_le8 g2_7 (stt + ((0 : Int32) * (8 : Int32))) (ln % (8 : Int32))) ||| (ln.toInt64 <<< ((56 : Int32) &&& 0x3f).toInt64)) ((u0 ^^^ (8317987319222330741 : Int64)), (u1 ^^^ (7237128888997146477 : Int64)), (u0 ^^^ (7816392313619706465 : Int64)), (u1 ^^^ (8387220255154660723 : Int64)))).2.2.2)))).2.2.1)) ^^^ ((own_round (own_round (own_round ((own_comp ((own_le8 g2_7 (stt + ((0 : Int32) * (8 : Int32))) (ln % (8 : Int32))) ||| (ln.toInt64 <<< ((56 : Int32) &&& 0x3f).toInt64)) ((u0 ^^^ (8317987319222330741 : Int64)), (u1 ^^^ (7237128888997146477 : Int64)), (u0 ^^^ (7816392313619706465 : Int64)), (u1 ^^^ (8387220255154660723 : Int64)))).1, (own_comp ((own_le8 g2_7 (stt + ((0 : Int32) * (8 : Int32))) (ln % (8 : Int32))) ||| (ln.toInt64 <<< ((56 : Int32) &&& 0x3f).toInt64)) ((u0 ^^^ (8317987319222330741 : Int64)), (u1 ^^^ (7237128888997146477 : Int64)), (u0 ^^^ (7816392313619706465 : Int64)), (u1 ^^^ (8387220255154660723 : Int64)))).2.1, (((own_comp ((own_le8 g2_7 (stt + ((0 : Int32) * (8 : Int32))) (ln % (8 : Int32))) ||| (ln.toInt64 <<< ((56 : Int32) &&& 0x3f).toInt64)) ((u0 ^^^ (8317987319222330741 : Int64)), (u1 ^^^ (7237128888997146477 : Int64)), (u0 ^^^ (7816392313619706465 : Int64)), (u1 ^^^ (8387220255154660723 : Int64)))).2.2.1) ^^^ (255 : Int64)), (own_comp ((own_le8 g2_7 (stt + ((0 : Int32) * (8 : Int32))) (ln % (8 : Int32))) ||| (ln.toInt64 <<< ((56 : Int32) &&& 0x3f).toInt64)) ((u0 ^^^ (8317987319222330741 : Int64)), (u1 ^^^ (7237128888997146477 : Int64)), (u0 ^^^ (7816392313619706465 : Int64)), (u1 ^^^ (8387220255154660723 : Int64)))).2.2.2)))).2.2.2)), vS, vL (own_x4 (own_comp (0 : Int64) (own_comp (0 : Int64) (own_comp (0 : Int64) (own_ff (own_comp ((own_le8 g2_7 (stt + ((0 : Int32) * (8 : Int32))) ((stt + ln) - (stt + ((0 : Int32) * (8 : Int32))))) ||| (((stt + ln) - stt).toInt64 <<< ((56 : Int32) &&& 0x3f).toInt64)) ((u0 ^^^ (8317987319222330741 : Int64)), (u1 ^^^ (7237128888997146477 : Int64)), (u0 ^^^ (7816392313619706465 : Int64)), (u1 ^^^ (8387220255154660723 : Int64))))))))), vS]) rfl (pc' := 276) rfl ?_
    refine own_lload X35 hx (hb hby at_276) rfl (pc' := 278) rfl ?_
    refine own_lload X35 hx (hb hby at_278) rfl (pc' := 280) rfl ?_
    refine own_lcmp X35 hx (hb hby at_280) (pc' := 281) rfl ?_
    refine own_ifF X35 hx (hb hby at_281) (own_eqL (by rw [own_end, own_canc, own_rem stt ln (0 : Int32) hS hL.1 (by decide) (by simp only [Int32.reduceToInt]; omega)]; rfl)).2 (pc' := 284) rfl ?_
    refine own_iconst X35 hx (hb hby at_284) (z := (1 : Int32)) rfl (pc' := 285) rfl ?_
    refine own_goto X35 hx (hb hby at_285) (by decide) (pc' := 289) rfl ?_
    exact own_retZ X35 hx hret hlk (Or.inr rfl) (hb hby at_289) ⟨rfl, N35⟩ (by decide) (by decide)
  · have hB := own_blk hL.1 c16
    simp only [Int32.reduceToInt] at hB
    refine own_iload X14 hx (hb hby at_104) rfl (pc' := 106) rfl ?_
    refine own_bipush X14 hx (hb hby at_106) (z := (8 : Int32)) (by decide) (pc' := 108) rfl ?_
    refine own_icmpF X14 hx (hb hby at_108) (flt (by simp only [Int32.lt_iff_toInt_lt, Int32.reduceToInt]; omega)).1 (pc' := 111) rfl ?_
    refine own_aload X14 hx (hb hby at_111) rfl rfl (pc' := 113) rfl ?_
    refine own_aload X14 hx (hb hby at_113) rfl rfl (pc' := 115) rfl ?_
    refine own_iload X14 hx (hb hby at_115) rfl (pc' := 117) rfl ?_
    refine own_bipush X14 hx (hb hby at_117) (z := (8 : Int32)) (by decide) (pc' := 119) rfl ?_
    have f40 : own_AI Z h14 a2 .byte (24 : Int32) g2_7 := (((((p7_0.ext E9).other W11 (Nat.ne_of_lt lt_a2_a9)).other W12 (Nat.ne_of_lt lt_a2_a9)).other W13 (Nat.ne_of_lt lt_a2_a9)).other W14 (Nat.ne_of_lt lt_a2_a9))
    have z41 : n0 ≤ h14.size := (Nat.le_trans (Nat.le_trans (Nat.le_trans (Nat.le_trans (Nat.le_trans z10 E9.1) (Nat.le_of_eq (Wr.size W11).symm)) (Nat.le_of_eq (Wr.size W12).symm)) (Nat.le_of_eq (Wr.size W13).symm)) (Nat.le_of_eq (Wr.size W14).symm))
    refine own_callS X14 hx hZ hown (ow_14 hw) (ow_15 hw) (ow_7 hw) (ow_16 hw) (by decide) (rm_le8 l Z a0 hw a2 stt (8 : Int32) g2_7 h14 n0 z41 f40 hS.1 (by simp only [Int32.reduceToInt]; omega)) e14 (W := 1) (by decide) (by decide) opd___BII_J rfl (rest := [(.ref a9)]) rfl (hb hby at_119) (Nat.le_of_eq rfl) (by rw [hml]; rfl) (by decide) (by decide) (pc' := 122) rfl ?_
    intro v39 T39 L39 X39 q39
    obtain ⟨rfl, Nq39, eh39⟩ := q39
    have N39 := Fr.app N14 Nq39
    show own_G p e below s _ _ _ (T39.setTop (mkF m 122 #[vL u0, vS, vL u1, vS, vL u2, vS, vL u3, vS, vL u4, vS, vI u5, vI ln, vI stt, vI (stt + ln), vR a2, vR a9, vU, vU, vU, vU, vU, vU] [(.long (own_le8 g2_7 stt (8 : Int32))), (.ref a9)]))
    refine own_callS X39 hx hZ hown (ow_17 hw) (ow_18 hw) (ow_7 hw) (ow_19 hw) (by decide) (rm_comp l Z a0 hw a9 (own_le8 g2_7 stt (8 : Int32)) ((u0 ^^^ (8317987319222330741 : Int64)), (u1 ^^^ (7237128888997146477 : Int64)), (u0 ^^^ (7816392313619706465 : Int64)), (u1 ^^^ (8387220255154660723 : Int64))) h14 n0 z41 A14 ge_a9) eh39 (W := 0) (by decide) (by decide) opd___JJ_V rfl (rest := []) rfl (hb hby at_122) (Nat.le_of_eq rfl) (by rw [hml]; rfl) (by decide) (by decide) (pc' := 125) rfl ?_
    intro v42 T42 L42 X42 q42
    obtain ⟨rfl, Nq42, K42, p42_0⟩ := q42
    have N42 := Fr.app N39 Nq42
    show own_G p e below s _ _ _ (T42.setTop (mkF m 125 #[vL u0, vS, vL u1, vS, vL u2, vS, vL u3, vS, vL u4, vS, vI u5, vI ln, vI stt, vI (stt + ln), vR a2, vR a9, vU, vU, vU, vU, vU, vU] []))
    refine own_iload X42 hx (hb hby at_125) rfl (pc' := 127) rfl ?_
    refine own_bipush X42 hx (hb hby at_127) (z := (16 : Int32)) (by decide) (pc' := 129) rfl ?_
    refine own_icmpT X42 hx (hb hby at_129) (tlt (by simp only [Int32.lt_iff_toInt_lt, Int32.reduceToInt]; omega)).1 (by decide) (pc' := 149) rfl ?_
    refine own_iload X42 hx (hb hby at_149) rfl (pc' := 151) rfl ?_
    refine own_bipush X42 hx (hb hby at_151) (z := (24 : Int32)) (by decide) (pc' := 153) rfl ?_
    refine own_icmpT X42 hx (hb hby at_153) (tlt (by simp only [Int32.lt_iff_toInt_lt, Int32.reduceToInt]; omega)).1 (by decide) (pc' := 173) rfl ?_
    refine own_aload X42 hx (hb hby at_173) rfl rfl (pc' := 175) rfl ?_
    refine own_iload X42 hx (hb hby at_175) rfl (pc' := 177) rfl ?_
    refine own_iload X42 hx (hb hby at_177) rfl (pc' := 179) rfl ?_
    refine own_bipush X42 hx (hb hby at_179) (z := (8 : Int32)) (by decide) (pc' := 181) rfl ?_
    refine own_idiv X42 hx (hb hby at_181) (by decide) (pc' := 182) rfl ?_
    rw [c16]
    refine own_bipush X42 hx (hb hby at_182) (z := (8 : Int32)) (by decide) (pc' := 184) rfl ?_
    refine own_imul X42 hx (hb hby at_184) (pc' := 185) rfl ?_
    refine own_iadd X42 hx (hb hby at_185) (pc' := 186) rfl ?_
    refine own_iload X42 hx (hb hby at_186) rfl (pc' := 188) rfl ?_
    refine own_bipush X42 hx (hb hby at_188) (z := (8 : Int32)) (by decide) (pc' := 190) rfl ?_
    refine own_irem X42 hx (hb hby at_190) (by decide) (pc' := 191) rfl ?_
    have f44 : own_AI Z T42.heap a2 .byte (24 : Int32) g2_7 := (f40.keep K42 (ninS (Nat.ne_of_lt lt_a2_a9) nin0))
    have z45 : n0 ≤ T42.heap.size := (Nat.le_trans z41 K42.1)
    refine own_callS X42 hx hZ hown (ow_14 hw) (ow_15 hw) (ow_7 hw) (ow_16 hw) (by decide) (rm_le8 l Z a0 hw a2 (stt + ((1 : Int32) * (8 : Int32))) (ln % (8 : Int32)) g2_7 T42.heap n0 z45 f44 (by have q := own_offk stt (1 : Int32) (by omega) (by decide); have q2 := (c_irem ln 8 8 rfl).1 hL.1; simp only [Int32.reduceToInt] at q; omega) (by have q := own_offk stt (1 : Int32) (by omega) (by decide); have q2 := (c_irem ln 8 8 rfl).1 hL.1; simp only [Int32.reduceToInt] at q; omega)) rfl (W := 0) (by decide) (by decide) opd___BII_J rfl (rest := []) rfl (hb hby at_191) (Nat.le_of_eq rfl) (by rw [hml]; rfl) (by decide) (by decide) (pc' := 194) rfl ?_
    intro v43 T43 L43 X43 q43
    obtain ⟨rfl, Nq43, eh43⟩ := q43
    have N43 := Fr.app N42 Nq43
    show own_G p e below s _ _ _ (T43.setTop (mkF m 194 #[vL u0, vS, vL u1, vS, vL u2, vS, vL u3, vS, vL u4, vS, vI u5, vI ln, vI stt, vI (stt + ln), vR a2, vR a9, vU, vU, vU, vU, vU, vU] [(.long (own_le8 g2_7 (stt + ((1 : Int32) * (8 : Int32))) (ln % (8 : Int32))))]))
    refine own_iload X43 hx (hb hby at_194) rfl (pc' := 196) rfl ?_
    refine own_i2l X43 hx (hb hby at_196) (pc' := 197) rfl ?_
    refine own_bipush X43 hx (hb hby at_197) (z := (56 : Int32)) (by decide) (pc' := 199) rfl ?_
    refine own_lshl X43 hx (hb hby at_199) (pc' := 200) rfl ?_
    refine own_lor X43 hx (hb hby at_200) (pc' := 201) rfl ?_
    refine own_lstore X43 hx (hb hby at_201) (l' := #[vL u0, vS, vL u1, vS, vL u2, vS, vL u3, vS, vL u4, vS, vI u5, vI ln, vI stt, vI (stt + ln), vR a2, vR a9, vL ((own_le8 g2_7 (stt + ((1 : Int32) * (8 : Int32))) (ln % (8 : Int32))) ||| (ln.toInt64 <<< ((56 : Int32) &&& 0x3f).toInt64)), vS, vU, vU, vU, vU]) rfl (pc' := 203) rfl ?_
    refine own_aload X43 hx (hb hby at_203) rfl rfl (pc' := 205) rfl ?_
    refine own_lload X43 hx (hb hby at_205) rfl (pc' := 207) rfl ?_
    refine own_callS X43 hx hZ hown (ow_17 hw) (ow_18 hw) (ow_7 hw) (ow_19 hw) (by decide) (rm_comp l Z a0 hw a9 ((own_le8 g2_7 (stt + ((1 : Int32) * (8 : Int32))) (ln % (8 : Int32))) ||| (ln.toInt64 <<< ((56 : Int32) &&& 0x3f).toInt64)) (own_comp (own_le8 g2_7 stt (8 : Int32)) ((u0 ^^^ (8317987319222330741 : Int64)), (u1 ^^^ (7237128888997146477 : Int64)), (u0 ^^^ (7816392313619706465 : Int64)), (u1 ^^^ (8387220255154660723 : Int64)))) T42.heap n0 z45 p42_0 ge_a9) eh43 (W := 0) (by decide) (by decide) opd___JJ_V rfl (rest := []) rfl (hb hby at_207) (Nat.le_of_eq rfl) (by rw [hml]; rfl) (by decide) (by decide) (pc' := 210) rfl ?_
    intro v46 T46 L46 X46 q46
    obtain ⟨rfl, Nq46, K46, p46_0⟩ := q46
    have N46 := Fr.app N43 Nq46
    show own_G p e below s _ _ _ (T46.setTop (mkF m 210 #[vL u0, vS, vL u1, vS, vL u2, vS, vL u3, vS, vL u4, vS, vI u5, vI ln, vI stt, vI (stt + ln), vR a2, vR a9, vL ((own_le8 g2_7 (stt + ((1 : Int32) * (8 : Int32))) (ln % (8 : Int32))) ||| (ln.toInt64 <<< ((56 : Int32) &&& 0x3f).toInt64)), vS, vU, vU, vU, vU] []))
    refine own_aload X46 hx (hb hby at_210) rfl rfl (pc' := 212) rfl ?_
    refine own_iconst X46 hx (hb hby at_212) (z := (2 : Int32)) rfl (pc' := 213) rfl ?_
    refine own_dup2 X46 hx (hb hby at_213) rfl rfl (pc' := 214) rfl ?_
    refine own_laload X46 hx hZ rfl p46_0 (x := (own_comp ((own_le8 g2_7 (stt + ((1 : Int32) * (8 : Int32))) (ln % (8 : Int32))) ||| (ln.toInt64 <<< ((56 : Int32) &&& 0x3f).toInt64)) (own_comp (own_le8 g2_7 stt (8 : Int32)) ((u0 ^^^ (8317987319222330741 : Int64)), (u1 ^^^ (7237128888997146477 : Int64)), (u0 ^^^ (7816392313619706465 : Int64)), (u1 ^^^ (8387220255154660723 : Int64))))).2.2.1) (by decide) rfl (hb hby at_214) (pc' := 215) rfl ?_
    refine own_ldc2 X46 hx hZ hown (ow_26 hw) (hb hby at_215) (pc' := 218) rfl ?_
    refine own_lxor X46 hx (hb hby at_218) (pc' := 219) rfl ?_
    refine own_lastore X46 hx hZ rfl (g' := (own_LJ [(own_comp ((own_le8 g2_7 (stt + ((1 : Int32) * (8 : Int32))) (ln % (8 : Int32))) ||| (ln.toInt64 <<< ((56 : Int32) &&& 0x3f).toInt64)) (own_comp (own_le8 g2_7 stt (8 : Int32)) ((u0 ^^^ (8317987319222330741 : Int64)), (u1 ^^^ (7237128888997146477 : Int64)), (u0 ^^^ (7816392313619706465 : Int64)), (u1 ^^^ (8387220255154660723 : Int64))))).1, (own_comp ((own_le8 g2_7 (stt + ((1 : Int32) * (8 : Int32))) (ln % (8 : Int32))) ||| (ln.toInt64 <<< ((56 : Int32) &&& 0x3f).toInt64)) (own_comp (own_le8 g2_7 stt (8 : Int32)) ((u0 ^^^ (8317987319222330741 : Int64)), (u1 ^^^ (7237128888997146477 : Int64)), (u0 ^^^ (7816392313619706465 : Int64)), (u1 ^^^ (8387220255154660723 : Int64))))).2.1, (((own_comp ((own_le8 g2_7 (stt + ((1 : Int32) * (8 : Int32))) (ln % (8 : Int32))) ||| (ln.toInt64 <<< ((56 : Int32) &&& 0x3f).toInt64)) (own_comp (own_le8 g2_7 stt (8 : Int32)) ((u0 ^^^ (8317987319222330741 : Int64)), (u1 ^^^ (7237128888997146477 : Int64)), (u0 ^^^ (7816392313619706465 : Int64)), (u1 ^^^ (8387220255154660723 : Int64))))).2.2.1) ^^^ (255 : Int64)), (own_comp ((own_le8 g2_7 (stt + ((1 : Int32) * (8 : Int32))) (ln % (8 : Int32))) ||| (ln.toInt64 <<< ((56 : Int32) &&& 0x3f).toInt64)) (own_comp (own_le8 g2_7 stt (8 : Int32)) ((u0 ^^^ (8317987319222330741 : Int64)), (u1 ^^^ (7237128888997146477 : Int64)), (u0 ^^^ (7816392313619706465 : Int64)), (u1 ^^^ (8387220255154660723 : Int64))))).2.2.2])) p46_0 (x' := (((own_comp ((own_le8 g2_7 (stt + ((1 : Int32) * (8 : Int32))) (ln % (8 : Int32))) ||| (ln.toInt64 <<< ((56 : Int32) &&& 0x3f).toInt64)) (own_comp (own_le8 g2_7 stt (8 : Int32)) ((u0 ^^^ (8317987319222330741 : Int64)), (u1 ^^^ (7237128888997146477 : Int64)), (u0 ^^^ (7816392313619706465 : Int64)), (u1 ^^^ (8387220255154660723 : Int64))))).2.2.1) ^^^ (255 : Int64))) (by decide) rfl (fun i _ => own_LJ_set [(own_comp ((own_le8 g2_7 (stt + ((1 : Int32) * (8 : Int32))) (ln % (8 : Int32))) ||| (ln.toInt64 <<< ((56 : Int32) &&& 0x3f).toInt64)) (own_comp (own_le8 g2_7 stt (8 : Int32)) ((u0 ^^^ (8317987319222330741 : Int64)), (u1 ^^^ (7237128888997146477 : Int64)), (u0 ^^^ (7816392313619706465 : Int64)), (u1 ^^^ (8387220255154660723 : Int64))))).1, (own_comp ((own_le8 g2_7 (stt + ((1 : Int32) * (8 : Int32))) (ln % (8 : Int32))) ||| (ln.toInt64 <<< ((56 : Int32) &&& 0x3f).toInt64)) (own_comp (own_le8 g2_7 stt (8 : Int32)) ((u0 ^^^ (8317987319222330741 : Int64)), (u1 ^^^ (7237128888997146477 : Int64)), (u0 ^^^ (7816392313619706465 : Int64)), (u1 ^^^ (8387220255154660723 : Int64))))).2.1, (own_comp ((own_le8 g2_7 (stt + ((1 : Int32) * (8 : Int32))) (ln % (8 : Int32))) ||| (ln.toInt64 <<< ((56 : Int32) &&& 0x3f).toInt64)) (own_comp (own_le8 g2_7 stt (8 : Int32)) ((u0 ^^^ (8317987319222330741 : Int64)), (u1 ^^^ (7237128888997146477 : Int64)), (u0 ^^^ (7816392313619706465 : Int64)), (u1 ^^^ (8387220255154660723 : Int64))))).2.2.1, (own_comp ((own_le8 g2_7 (stt + ((1 : Int32) * (8 : Int32))) (ln % (8 : Int32))) ||| (ln.toInt64 <<< ((56 : Int32) &&& 0x3f).toInt64)) (own_comp (own_le8 g2_7 stt (8 : Int32)) ((u0 ^^^ (8317987319222330741 : Int64)), (u1 ^^^ (7237128888997146477 : Int64)), (u0 ^^^ (7816392313619706465 : Int64)), (u1 ^^^ (8387220255154660723 : Int64))))).2.2.2] 2 (((own_comp ((own_le8 g2_7 (stt + ((1 : Int32) * (8 : Int32))) (ln % (8 : Int32))) ||| (ln.toInt64 <<< ((56 : Int32) &&& 0x3f).toInt64)) (own_comp (own_le8 g2_7 stt (8 : Int32)) ((u0 ^^^ (8317987319222330741 : Int64)), (u1 ^^^ (7237128888997146477 : Int64)), (u0 ^^^ (7816392313619706465 : Int64)), (u1 ^^^ (8387220255154660723 : Int64))))).2.2.1) ^^^ (255 : Int64)) (by simp) i) (hb hby at_219) (pc' := 220) rfl ?_
    intro T47 h47 X47 e47 W47 A47
    have N47 := Fr.snoc X47 N46 ge_a9
    refine own_aload X47 hx (hb hby at_220) rfl rfl (pc' := 222) rfl ?_
    have z49 : n0 ≤ h47.size := (Nat.le_trans (Nat.le_trans z45 K46.1) (Nat.le_of_eq (Wr.size W47).symm))
    refine own_callS X47 hx hZ hown (ow_20 hw) (ow_21 hw) (ow_7 hw) (ow_22 hw) (by decide) (rm_round l Z a0 hw a9 ((own_comp ((own_le8 g2_7 (stt + ((1 : Int32) * (8 : Int32))) (ln % (8 : Int32))) ||| (ln.toInt64 <<< ((56 : Int32) &&& 0x3f).toInt64)) (own_comp (own_le8 g2_7 stt (8 : Int32)) ((u0 ^^^ (8317987319222330741 : Int64)), (u1 ^^^ (7237128888997146477 : Int64)), (u0 ^^^ (7816392313619706465 : Int64)), (u1 ^^^ (8387220255154660723 : Int64))))).1, (own_comp ((own_le8 g2_7 (stt + ((1 : Int32) * (8 : Int32))) (ln % (8 : Int32))) ||| (ln.toInt64 <<< ((56 : Int32) &&& 0x3f).toInt64)) (own_comp (own_le8 g2_7 stt (8 : Int32)) ((u0 ^^^ (8317987319222330741 : Int64)), (u1 ^^^ (7237128888997146477 : Int64)), (u0 ^^^ (7816392313619706465 : Int64)), (u1 ^^^ (8387220255154660723 : Int64))))).2.1, (((own_comp ((own_le8 g2_7 (stt + ((1 : Int32) * (8 : Int32))) (ln % (8 : Int32))) ||| (ln.toInt64 <<< ((56 : Int32) &&& 0x3f).toInt64)) (own_comp (own_le8 g2_7 stt (8 : Int32)) ((u0 ^^^ (8317987319222330741 : Int64)), (u1 ^^^ (7237128888997146477 : Int64)), (u0 ^^^ (7816392313619706465 : Int64)), (u1 ^^^ (8387220255154660723 : Int64))))).2.2.1) ^^^ (255 : Int64)), (own_comp ((own_le8 g2_7 (stt + ((1 : Int32) * (8 : Int32))) (ln % (8 : Int32))) ||| (ln.toInt64 <<< ((56 : Int32) &&& 0x3f).toInt64)) (own_comp (own_le8 g2_7 stt (8 : Int32)) ((u0 ^^^ (8317987319222330741 : Int64)), (u1 ^^^ (7237128888997146477 : Int64)), (u0 ^^^ (7816392313619706465 : Int64)), (u1 ^^^ (8387220255154660723 : Int64))))).2.2.2) h47 n0 z49 A47 ge_a9) e47 (W := 0) (by decide) (by decide) opd___J_V rfl (rest := []) rfl (hb hby at_222) (Nat.le_of_eq rfl) (by rw [hml]; rfl) (by decide) (by decide) (pc' := 225) rfl ?_
    intro v48 T48 L48 X48 q48
    obtain ⟨rfl, Nq48, K48, p48_0⟩ := q48
    have N48 := Fr.app N47 Nq48
    show own_G p e below s _ _ _ (T48.setTop (mkF m 225 #[vL u0, vS, vL u1, vS, vL u2, vS, vL u3, vS, vL u4, vS, vI u5, vI ln, vI stt, vI (stt + ln), vR a2, vR a9, vL ((own_le8 g2_7 (stt + ((1 : Int32) * (8 : Int32))) (ln % (8 : Int32))) ||| (ln.toInt64 <<< ((56 : Int32) &&& 0x3f).toInt64)), vS, vU, vU, vU, vU] []))
    refine own_aload X48 hx (hb hby at_225) rfl rfl (pc' := 227) rfl ?_
    have z51 : n0 ≤ T48.heap.size := (Nat.le_trans z49 K48.1)
    refine own_callS X48 hx hZ hown (ow_20 hw) (ow_21 hw) (ow_7 hw) (ow_22 hw) (by decide) (rm_round l Z a0 hw a9 (own_round ((own_comp ((own_le8 g2_7 (stt + ((1 : Int32) * (8 : Int32))) (ln % (8 : Int32))) ||| (ln.toInt64 <<< ((56 : Int32) &&& 0x3f).toInt64)) (own_comp (own_le8 g2_7 stt (8 : Int32)) ((u0 ^^^ (8317987319222330741 : Int64)), (u1 ^^^ (7237128888997146477 : Int64)), (u0 ^^^ (7816392313619706465 : Int64)), (u1 ^^^ (8387220255154660723 : Int64))))).1, (own_comp ((own_le8 g2_7 (stt + ((1 : Int32) * (8 : Int32))) (ln % (8 : Int32))) ||| (ln.toInt64 <<< ((56 : Int32) &&& 0x3f).toInt64)) (own_comp (own_le8 g2_7 stt (8 : Int32)) ((u0 ^^^ (8317987319222330741 : Int64)), (u1 ^^^ (7237128888997146477 : Int64)), (u0 ^^^ (7816392313619706465 : Int64)), (u1 ^^^ (8387220255154660723 : Int64))))).2.1, (((own_comp ((own_le8 g2_7 (stt + ((1 : Int32) * (8 : Int32))) (ln % (8 : Int32))) ||| (ln.toInt64 <<< ((56 : Int32) &&& 0x3f).toInt64)) (own_comp (own_le8 g2_7 stt (8 : Int32)) ((u0 ^^^ (8317987319222330741 : Int64)), (u1 ^^^ (7237128888997146477 : Int64)), (u0 ^^^ (7816392313619706465 : Int64)), (u1 ^^^ (8387220255154660723 : Int64))))).2.2.1) ^^^ (255 : Int64)), (own_comp ((own_le8 g2_7 (stt + ((1 : Int32) * (8 : Int32))) (ln % (8 : Int32))) ||| (ln.toInt64 <<< ((56 : Int32) &&& 0x3f).toInt64)) (own_comp (own_le8 g2_7 stt (8 : Int32)) ((u0 ^^^ (8317987319222330741 : Int64)), (u1 ^^^ (7237128888997146477 : Int64)), (u0 ^^^ (7816392313619706465 : Int64)), (u1 ^^^ (8387220255154660723 : Int64))))).2.2.2)) T48.heap n0 z51 p48_0 ge_a9) rfl (W := 0) (by decide) (by decide) opd___J_V rfl (rest := []) rfl (hb hby at_227) (Nat.le_of_eq rfl) (by rw [hml]; rfl) (by decide) (by decide) (pc' := 230) rfl ?_
    intro v50 T50 L50 X50 q50
    obtain ⟨rfl, Nq50, K50, p50_0⟩ := q50
    have N50 := Fr.app N48 Nq50
    show own_G p e below s _ _ _ (T50.setTop (mkF m 230 #[vL u0, vS, vL u1, vS, vL u2, vS, vL u3, vS, vL u4, vS, vI u5, vI ln, vI stt, vI (stt + ln), vR a2, vR a9, vL ((own_le8 g2_7 (stt + ((1 : Int32) * (8 : Int32))) (ln % (8 : Int32))) ||| (ln.toInt64 <<< ((56 : Int32) &&& 0x3f).toInt64)), vS, vU, vU, vU, vU] []))
    refine own_aload X50 hx (hb hby at_230) rfl rfl (pc' := 232) rfl ?_
    have z53 : n0 ≤ T50.heap.size := (Nat.le_trans z51 K50.1)
    refine own_callS X50 hx hZ hown (ow_20 hw) (ow_21 hw) (ow_7 hw) (ow_22 hw) (by decide) (rm_round l Z a0 hw a9 (own_round (own_round ((own_comp ((own_le8 g2_7 (stt + ((1 : Int32) * (8 : Int32))) (ln % (8 : Int32))) ||| (ln.toInt64 <<< ((56 : Int32) &&& 0x3f).toInt64)) (own_comp (own_le8 g2_7 stt (8 : Int32)) ((u0 ^^^ (8317987319222330741 : Int64)), (u1 ^^^ (7237128888997146477 : Int64)), (u0 ^^^ (7816392313619706465 : Int64)), (u1 ^^^ (8387220255154660723 : Int64))))).1, (own_comp ((own_le8 g2_7 (stt + ((1 : Int32) * (8 : Int32))) (ln % (8 : Int32))) ||| (ln.toInt64 <<< ((56 : Int32) &&& 0x3f).toInt64)) (own_comp (own_le8 g2_7 stt (8 : Int32)) ((u0 ^^^ (8317987319222330741 : Int64)), (u1 ^^^ (7237128888997146477 : Int64)), (u0 ^^^ (7816392313619706465 : Int64)), (u1 ^^^ (8387220255154660723 : Int64))))).2.1, (((own_comp ((own_le8 g2_7 (stt + ((1 : Int32) * (8 : Int32))) (ln % (8 : Int32))) ||| (ln.toInt64 <<< ((56 : Int32) &&& 0x3f).toInt64)) (own_comp (own_le8 g2_7 stt (8 : Int32)) ((u0 ^^^ (8317987319222330741 : Int64)), (u1 ^^^ (7237128888997146477 : Int64)), (u0 ^^^ (7816392313619706465 : Int64)), (u1 ^^^ (8387220255154660723 : Int64))))).2.2.1) ^^^ (255 : Int64)), (own_comp ((own_le8 g2_7 (stt + ((1 : Int32) * (8 : Int32))) (ln % (8 : Int32))) ||| (ln.toInt64 <<< ((56 : Int32) &&& 0x3f).toInt64)) (own_comp (own_le8 g2_7 stt (8 : Int32)) ((u0 ^^^ (8317987319222330741 : Int64)), (u1 ^^^ (7237128888997146477 : Int64)), (u0 ^^^ (7816392313619706465 : Int64)), (u1 ^^^ (8387220255154660723 : Int64))))).2.2.2))) T50.heap n0 z53 p50_0 ge_a9) rfl (W := 0) (by decide) (by decide) opd___J_V rfl (rest := []) rfl (hb hby at_232) (Nat.le_of_eq rfl) (by rw [hml]; rfl) (by decide) (by decide) (pc' := 235) rfl ?_
    intro v52 T52 L52 X52 q52
    obtain ⟨rfl, Nq52, K52, p52_0⟩ := q52
    have N52 := Fr.app N50 Nq52
    show own_G p e below s _ _ _ (T52.setTop (mkF m 235 #[vL u0, vS, vL u1, vS, vL u2, vS, vL u3, vS, vL u4, vS, vI u5, vI ln, vI stt, vI (stt + ln), vR a2, vR a9, vL ((own_le8 g2_7 (stt + ((1 : Int32) * (8 : Int32))) (ln % (8 : Int32))) ||| (ln.toInt64 <<< ((56 : Int32) &&& 0x3f).toInt64)), vS, vU, vU, vU, vU] []))
    refine own_aload X52 hx (hb hby at_235) rfl rfl (pc' := 237) rfl ?_
    refine own_iconst X52 hx (hb hby at_237) (z := (0 : Int32)) rfl (pc' := 238) rfl ?_
    refine own_laload X52 hx hZ rfl p52_0 (x := (own_round (own_round (own_round ((own_comp ((own_le8 g2_7 (stt + ((1 : Int32) * (8 : Int32))) (ln % (8 : Int32))) ||| (ln.toInt64 <<< ((56 : Int32) &&& 0x3f).toInt64)) (own_comp (own_le8 g2_7 stt (8 : Int32)) ((u0 ^^^ (8317987319222330741 : Int64)), (u1 ^^^ (7237128888997146477 : Int64)), (u0 ^^^ (7816392313619706465 : Int64)), (u1 ^^^ (8387220255154660723 : Int64))))).1, (own_comp ((own_le8 g2_7 (stt + ((1 : Int32) * (8 : Int32))) (ln % (8 : Int32))) ||| (ln.toInt64 <<< ((56 : Int32) &&& 0x3f).toInt64)) (own_comp (own_le8 g2_7 stt (8 : Int32)) ((u0 ^^^ (8317987319222330741 : Int64)), (u1 ^^^ (7237128888997146477 : Int64)), (u0 ^^^ (7816392313619706465 : Int64)), (u1 ^^^ (8387220255154660723 : Int64))))).2.1, (((own_comp ((own_le8 g2_7 (stt + ((1 : Int32) * (8 : Int32))) (ln % (8 : Int32))) ||| (ln.toInt64 <<< ((56 : Int32) &&& 0x3f).toInt64)) (own_comp (own_le8 g2_7 stt (8 : Int32)) ((u0 ^^^ (8317987319222330741 : Int64)), (u1 ^^^ (7237128888997146477 : Int64)), (u0 ^^^ (7816392313619706465 : Int64)), (u1 ^^^ (8387220255154660723 : Int64))))).2.2.1) ^^^ (255 : Int64)), (own_comp ((own_le8 g2_7 (stt + ((1 : Int32) * (8 : Int32))) (ln % (8 : Int32))) ||| (ln.toInt64 <<< ((56 : Int32) &&& 0x3f).toInt64)) (own_comp (own_le8 g2_7 stt (8 : Int32)) ((u0 ^^^ (8317987319222330741 : Int64)), (u1 ^^^ (7237128888997146477 : Int64)), (u0 ^^^ (7816392313619706465 : Int64)), (u1 ^^^ (8387220255154660723 : Int64))))).2.2.2)))).1) (by decide) rfl (hb hby at_238) (pc' := 239) rfl ?_
    refine own_aload X52 hx (hb hby at_239) rfl rfl (pc' := 241) rfl ?_
    refine own_iconst X52 hx (hb hby at_241) (z := (1 : Int32)) rfl (pc' := 242) rfl ?_
    refine own_laload X52 hx hZ rfl p52_0 (x := (own_round (own_round (own_round ((own_comp ((own_le8 g2_7 (stt + ((1 : Int32) * (8 : Int32))) (ln % (8 : Int32))) ||| (ln.toInt64 <<< ((56 : Int32) &&& 0x3f).toInt64)) (own_comp (own_le8 g2_7 stt (8 : Int32)) ((u0 ^^^ (8317987319222330741 : Int64)), (u1 ^^^ (7237128888997146477 : Int64)), (u0 ^^^ (7816392313619706465 : Int64)), (u1 ^^^ (8387220255154660723 : Int64))))).1, (own_comp ((own_le8 g2_7 (stt + ((1 : Int32) * (8 : Int32))) (ln % (8 : Int32))) ||| (ln.toInt64 <<< ((56 : Int32) &&& 0x3f).toInt64)) (own_comp (own_le8 g2_7 stt (8 : Int32)) ((u0 ^^^ (8317987319222330741 : Int64)), (u1 ^^^ (7237128888997146477 : Int64)), (u0 ^^^ (7816392313619706465 : Int64)), (u1 ^^^ (8387220255154660723 : Int64))))).2.1, (((own_comp ((own_le8 g2_7 (stt + ((1 : Int32) * (8 : Int32))) (ln % (8 : Int32))) ||| (ln.toInt64 <<< ((56 : Int32) &&& 0x3f).toInt64)) (own_comp (own_le8 g2_7 stt (8 : Int32)) ((u0 ^^^ (8317987319222330741 : Int64)), (u1 ^^^ (7237128888997146477 : Int64)), (u0 ^^^ (7816392313619706465 : Int64)), (u1 ^^^ (8387220255154660723 : Int64))))).2.2.1) ^^^ (255 : Int64)), (own_comp ((own_le8 g2_7 (stt + ((1 : Int32) * (8 : Int32))) (ln % (8 : Int32))) ||| (ln.toInt64 <<< ((56 : Int32) &&& 0x3f).toInt64)) (own_comp (own_le8 g2_7 stt (8 : Int32)) ((u0 ^^^ (8317987319222330741 : Int64)), (u1 ^^^ (7237128888997146477 : Int64)), (u0 ^^^ (7816392313619706465 : Int64)), (u1 ^^^ (8387220255154660723 : Int64))))).2.2.2)))).2.1) (by decide) rfl (hb hby at_242) (pc' := 243) rfl ?_
    refine own_lxor X52 hx (hb hby at_243) (pc' := 244) rfl ?_
    refine own_aload X52 hx (hb hby at_244) rfl rfl (pc' := 246) rfl ?_
    refine own_iconst X52 hx (hb hby at_246) (z := (2 : Int32)) rfl (pc' := 247) rfl ?_
    refine own_laload X52 hx hZ rfl p52_0 (x := (own_round (own_round (own_round ((own_comp ((own_le8 g2_7 (stt + ((1 : Int32) * (8 : Int32))) (ln % (8 : Int32))) ||| (ln.toInt64 <<< ((56 : Int32) &&& 0x3f).toInt64)) (own_comp (own_le8 g2_7 stt (8 : Int32)) ((u0 ^^^ (8317987319222330741 : Int64)), (u1 ^^^ (7237128888997146477 : Int64)), (u0 ^^^ (7816392313619706465 : Int64)), (u1 ^^^ (8387220255154660723 : Int64))))).1, (own_comp ((own_le8 g2_7 (stt + ((1 : Int32) * (8 : Int32))) (ln % (8 : Int32))) ||| (ln.toInt64 <<< ((56 : Int32) &&& 0x3f).toInt64)) (own_comp (own_le8 g2_7 stt (8 : Int32)) ((u0 ^^^ (8317987319222330741 : Int64)), (u1 ^^^ (7237128888997146477 : Int64)), (u0 ^^^ (7816392313619706465 : Int64)), (u1 ^^^ (8387220255154660723 : Int64))))).2.1, (((own_comp ((own_le8 g2_7 (stt + ((1 : Int32) * (8 : Int32))) (ln % (8 : Int32))) ||| (ln.toInt64 <<< ((56 : Int32) &&& 0x3f).toInt64)) (own_comp (own_le8 g2_7 stt (8 : Int32)) ((u0 ^^^ (8317987319222330741 : Int64)), (u1 ^^^ (7237128888997146477 : Int64)), (u0 ^^^ (7816392313619706465 : Int64)), (u1 ^^^ (8387220255154660723 : Int64))))).2.2.1) ^^^ (255 : Int64)), (own_comp ((own_le8 g2_7 (stt + ((1 : Int32) * (8 : Int32))) (ln % (8 : Int32))) ||| (ln.toInt64 <<< ((56 : Int32) &&& 0x3f).toInt64)) (own_comp (own_le8 g2_7 stt (8 : Int32)) ((u0 ^^^ (8317987319222330741 : Int64)), (u1 ^^^ (7237128888997146477 : Int64)), (u0 ^^^ (7816392313619706465 : Int64)), (u1 ^^^ (8387220255154660723 : Int64))))).2.2.2)))).2.2.1) (by decide) rfl (hb hby at_247) (pc' := 248) rfl ?_
    refine own_lxor X52 hx (hb hby at_248) (pc' := 249) rfl ?_
    refine own_aload X52 hx (hb hby at_249) rfl rfl (pc' := 251) rfl ?_
    refine own_iconst X52 hx (hb hby at_251) (z := (3 : Int32)) rfl (pc' := 252) rfl ?_
    refine own_laload X52 hx hZ rfl p52_0 (x := (own_round (own_round (own_round ((own_comp ((own_le8 g2_7 (stt + ((1 : Int32) * (8 : Int32))) (ln % (8 : Int32))) ||| (ln.toInt64 <<< ((56 : Int32) &&& 0x3f).toInt64)) (own_comp (own_le8 g2_7 stt (8 : Int32)) ((u0 ^^^ (8317987319222330741 : Int64)), (u1 ^^^ (7237128888997146477 : Int64)), (u0 ^^^ (7816392313619706465 : Int64)), (u1 ^^^ (8387220255154660723 : Int64))))).1, (own_comp ((own_le8 g2_7 (stt + ((1 : Int32) * (8 : Int32))) (ln % (8 : Int32))) ||| (ln.toInt64 <<< ((56 : Int32) &&& 0x3f).toInt64)) (own_comp (own_le8 g2_7 stt (8 : Int32)) ((u0 ^^^ (8317987319222330741 : Int64)), (u1 ^^^ (7237128888997146477 : Int64)), (u0 ^^^ (7816392313619706465 : Int64)), (u1 ^^^ (8387220255154660723 : Int64))))).2.1, (((own_comp ((own_le8 g2_7 (stt + ((1 : Int32) * (8 : Int32))) (ln % (8 : Int32))) ||| (ln.toInt64 <<< ((56 : Int32) &&& 0x3f).toInt64)) (own_comp (own_le8 g2_7 stt (8 : Int32)) ((u0 ^^^ (8317987319222330741 : Int64)), (u1 ^^^ (7237128888997146477 : Int64)), (u0 ^^^ (7816392313619706465 : Int64)), (u1 ^^^ (8387220255154660723 : Int64))))).2.2.1) ^^^ (255 : Int64)), (own_comp ((own_le8 g2_7 (stt + ((1 : Int32) * (8 : Int32))) (ln % (8 : Int32))) ||| (ln.toInt64 <<< ((56 : Int32) &&& 0x3f).toInt64)) (own_comp (own_le8 g2_7 stt (8 : Int32)) ((u0 ^^^ (8317987319222330741 : Int64)), (u1 ^^^ (7237128888997146477 : Int64)), (u0 ^^^ (7816392313619706465 : Int64)), (u1 ^^^ (8387220255154660723 : Int64))))).2.2.2)))).2.2.2) (by decide) rfl (hb hby at_252) (pc' := 253) rfl ?_
    refine own_lxor X52 hx (hb hby at_253) (pc' := 254) rfl ?_
    refine own_lstore X52 hx (hb hby at_254) (l' := #[vL u0, vS, vL u1, vS, vL u2, vS, vL u3, vS, vL u4, vS, vI u5, vI ln, vI stt, vI (stt + ln), vR a2, vR a9, vL ((own_le8 g2_7 (stt + ((1 : Int32) * (8 : Int32))) (ln % (8 : Int32))) ||| (ln.toInt64 <<< ((56 : Int32) &&& 0x3f).toInt64)), vS, vL (((((own_round (own_round (own_round ((own_comp ((own_le8 g2_7 (stt + ((1 : Int32) * (8 : Int32))) (ln % (8 : Int32))) ||| (ln.toInt64 <<< ((56 : Int32) &&& 0x3f).toInt64)) (own_comp (own_le8 g2_7 stt (8 : Int32)) ((u0 ^^^ (8317987319222330741 : Int64)), (u1 ^^^ (7237128888997146477 : Int64)), (u0 ^^^ (7816392313619706465 : Int64)), (u1 ^^^ (8387220255154660723 : Int64))))).1, (own_comp ((own_le8 g2_7 (stt + ((1 : Int32) * (8 : Int32))) (ln % (8 : Int32))) ||| (ln.toInt64 <<< ((56 : Int32) &&& 0x3f).toInt64)) (own_comp (own_le8 g2_7 stt (8 : Int32)) ((u0 ^^^ (8317987319222330741 : Int64)), (u1 ^^^ (7237128888997146477 : Int64)), (u0 ^^^ (7816392313619706465 : Int64)), (u1 ^^^ (8387220255154660723 : Int64))))).2.1, (((own_comp ((own_le8 g2_7 (stt + ((1 : Int32) * (8 : Int32))) (ln % (8 : Int32))) ||| (ln.toInt64 <<< ((56 : Int32) &&& 0x3f).toInt64)) (own_comp (own_le8 g2_7 stt (8 : Int32)) ((u0 ^^^ (8317987319222330741 : Int64)), (u1 ^^^ (7237128888997146477 : Int64)), (u0 ^^^ (7816392313619706465 : Int64)), (u1 ^^^ (8387220255154660723 : Int64))))).2.2.1) ^^^ (255 : Int64)), (own_comp ((own_le8 g2_7 (stt + ((1 : Int32) * (8 : Int32))) (ln % (8 : Int32))) ||| (ln.toInt64 <<< ((56 : Int32) &&& 0x3f).toInt64)) (own_comp (own_le8 g2_7 stt (8 : Int32)) ((u0 ^^^ (8317987319222330741 : Int64)), (u1 ^^^ (7237128888997146477 : Int64)), (u0 ^^^ (7816392313619706465 : Int64)), (u1 ^^^ (8387220255154660723 : Int64))))).2.2.2)))).1) ^^^ ((own_round (own_round (own_round ((own_comp ((own_le8 g2_7 (stt + ((1 : Int32) * (8 : Int32))) (ln % (8 : Int32))) ||| (ln.toInt64 <<< ((56 : Int32) &&& 0x3f).toInt64)) (own_comp (own_le8 g2_7 stt (8 : Int32)) ((u0 ^^^ (8317987319222330741 : Int64)), (u1 ^^^ (7237128888997146477 : Int64)), (u0 ^^^ (7816392313619706465 : Int64)), (u1 ^^^ (8387220255154660723 : Int64))))).1, (own_comp ((own_le8 g2_7 (stt + ((1 : Int32) * (8 : Int32))) (ln % (8 : Int32))) ||| (ln.toInt64 <<< ((56 : Int32) &&& 0x3f).toInt64)) (own_comp (own_le8 g2_7 stt (8 : Int32)) ((u0 ^^^ (8317987319222330741 : Int64)), (u1 ^^^ (7237128888997146477 : Int64)), (u0 ^^^ (7816392313619706465 : Int64)), (u1 ^^^ (8387220255154660723 : Int64))))).2.1, (((own_comp ((own_le8 g2_7 (stt + ((1 : Int32) * (8 : Int32))) (ln % (8 : Int32))) ||| (ln.toInt64 <<< ((56 : Int32) &&& 0x3f).toInt64)) (own_comp (own_le8 g2_7 stt (8 : Int32)) ((u0 ^^^ (8317987319222330741 : Int64)), (u1 ^^^ (7237128888997146477 : Int64)), (u0 ^^^ (7816392313619706465 : Int64)), (u1 ^^^ (8387220255154660723 : Int64))))).2.2.1) ^^^ (255 : Int64)), (own_comp ((own_le8 g2_7 (stt + ((1 : Int32) * (8 : Int32))) (ln % (8 : Int32))) ||| (ln.toInt64 <<< ((56 : Int32) &&& 0x3f).toInt64)) (own_comp (own_le8 g2_7 stt (8 : Int32)) ((u0 ^^^ (8317987319222330741 : Int64)), (u1 ^^^ (7237128888997146477 : Int64)), (u0 ^^^ (7816392313619706465 : Int64)), (u1 ^^^ (8387220255154660723 : Int64))))).2.2.2)))).2.1)) ^^^ ((own_round (own_round (own_round ((own_comp ((own_le8 g2_7 (stt + ((1 : Int32) * (8 : Int32))) (ln % (8 : Int32))) ||| (ln.toInt64 <<< ((56 : Int32) &&& 0x3f).toInt64)) (own_comp (own_le8 g2_7 stt (8 : Int32)) ((u0 ^^^ (8317987319222330741 : Int64)), (u1 ^^^ (7237128888997146477 : Int64)), (u0 ^^^ (7816392313619706465 : Int64)), (u1 ^^^ (8387220255154660723 : Int64))))).1, (own_comp ((own_le8 g2_7 (stt + ((1 : Int32) * (8 : Int32))) (ln % (8 : Int32))) ||| (ln.toInt64 <<< ((56 : Int32) &&& 0x3f).toInt64)) (own_comp (own_le8 g2_7 stt (8 : Int32)) ((u0 ^^^ (8317987319222330741 : Int64)), (u1 ^^^ (7237128888997146477 : Int64)), (u0 ^^^ (7816392313619706465 : Int64)), (u1 ^^^ (8387220255154660723 : Int64))))).2.1, (((own_comp ((own_le8 g2_7 (stt + ((1 : Int32) * (8 : Int32))) (ln % (8 : Int32))) ||| (ln.toInt64 <<< ((56 : Int32) &&& 0x3f).toInt64)) (own_comp (own_le8 g2_7 stt (8 : Int32)) ((u0 ^^^ (8317987319222330741 : Int64)), (u1 ^^^ (7237128888997146477 : Int64)), (u0 ^^^ (7816392313619706465 : Int64)), (u1 ^^^ (8387220255154660723 : Int64))))).2.2.1) ^^^ (255 : Int64)), (own_comp ((own_le8 g2_7 (stt + ((1 : Int32) * (8 : Int32))) (ln % (8 : Int32))) ||| (ln.toInt64 <<< ((56 : Int32) &&& 0x3f).toInt64)) (own_comp (own_le8 g2_7 stt (8 : Int32)) ((u0 ^^^ (8317987319222330741 : Int64)), (u1 ^^^ (7237128888997146477 : Int64)), (u0 ^^^ (7816392313619706465 : Int64)), (u1 ^^^ (8387220255154660723 : Int64))))).2.2.2)))).2.2.1)) ^^^ ((own_round (own_round (own_round ((own_comp ((own_le8 g2_7 (stt + ((1 : Int32) * (8 : Int32))) (ln % (8 : Int32))) ||| (ln.toInt64 <<< ((56 : Int32) &&& 0x3f).toInt64)) (own_comp (own_le8 g2_7 stt (8 : Int32)) ((u0 ^^^ (8317987319222330741 : Int64)), (u1 ^^^ (7237128888997146477 : Int64)), (u0 ^^^ (7816392313619706465 : Int64)), (u1 ^^^ (8387220255154660723 : Int64))))).1, (own_comp ((own_le8 g2_7 (stt + ((1 : Int32) * (8 : Int32))) (ln % (8 : Int32))) ||| (ln.toInt64 <<< ((56 : Int32) &&& 0x3f).toInt64)) (own_comp (own_le8 g2_7 stt (8 : Int32)) ((u0 ^^^ (8317987319222330741 : Int64)), (u1 ^^^ (7237128888997146477 : Int64)), (u0 ^^^ (7816392313619706465 : Int64)), (u1 ^^^ (8387220255154660723 : Int64))))).2.1, (((own_comp ((own_le8 g2_7 (stt + ((1 : Int32) * (8 : Int32))) (ln % (8 : Int32))) ||| (ln.toInt64 <<< ((56 : Int32) &&& 0x3f).toInt64)) (own_comp (own_le8 g2_7 stt (8 : Int32)) ((u0 ^^^ (8317987319222330741 : Int64)), (u1 ^^^ (7237128888997146477 : Int64)), (u0 ^^^ (7816392313619706465 : Int64)), (u1 ^^^ (8387220255154660723 : Int64))))).2.2.1) ^^^ (255 : Int64)), (own_comp ((own_le8 g2_7 (stt + ((1 : Int32) * (8 : Int32))) (ln % (8 : Int32))) ||| (ln.toInt64 <<< ((56 : Int32) &&& 0x3f).toInt64)) (own_comp (own_le8 g2_7 stt (8 : Int32)) ((u0 ^^^ (8317987319222330741 : Int64)), (u1 ^^^ (7237128888997146477 : Int64)), (u0 ^^^ (7816392313619706465 : Int64)), (u1 ^^^ (8387220255154660723 : Int64))))).2.2.2)))).2.2.2)), vS, vU, vU]) rfl (pc' := 256) rfl ?_
    have z55 : n0 ≤ T52.heap.size := (Nat.le_trans z53 K52.1)
    have f56 : own_AI Z T52.heap a2 .byte (24 : Int32) g2_7 := (((((f44.keep K46 (ninS (Nat.ne_of_lt lt_a2_a9) nin0)).other W47 (Nat.ne_of_lt lt_a2_a9)).keep K48 (ninS (Nat.ne_of_lt lt_a2_a9) nin0)).keep K50 (ninS (Nat.ne_of_lt lt_a2_a9) nin0)).keep K52 (ninS (Nat.ne_of_lt lt_a2_a9) nin0))
    refine own_new X52 hx hZ hown (ow_27 hw) (ow_28 hw) (ow_29 hw) rfl (hb hby at_256) (pc' := 259) rfl (by decide) (by decide) ?_
    intro T54 h54 a54 g54 X54 e54 E54 A54 D54
    have lt_a2_a54 : a2 < a54 := by rw [g54]; exact f56.lt
    have lt_a9_a54 : a9 < a54 := by rw [g54]; exact p52_0.lt
    have ge_a54 : n0 ≤ a54 := by rw [g54]; exact z55
    have F54_key0 : Fld Z h54 a54 "com/example/structlane/structlane/header/SipHash" "key0" "J" (.long (0 : Int64)) := D54 (Or.inr (ow_37 hw)) (ty := .long) (by decide)
    have F54_key1 : Fld Z h54 a54 "com/example/structlane/structlane/header/SipHash" "key1" "J" (.long (0 : Int64)) := D54 (Or.inr (ow_39 hw)) (ty := .long) (by decide)
    refine own_dup X54 hx (hb hby at_259) rfl (pc' := 260) rfl ?_
    refine own_lloadN X54 hx (hb hby at_260) rfl (pc' := 261) rfl ?_
    refine own_lloadN X54 hx (hb hby at_261) rfl (pc' := 262) rfl ?_
    have z58 : n0 ≤ h54.size := (Nat.le_trans z55 E54.1)
    refine own_callC X54 hx hZ rfl hown (ow_30 hw) (ow_31 hw) (ow_29 hw) (ow_32 hw) (by decide) (rm_init l Z a0 hw a54 u0 u1 (.long (0 : Int64)) (.long (0 : Int64)) h54 n0 z58 A54 F54_key0 F54_key1 ge_a54) e54 (W := 1) (by decide) (by decide) opd__JJ_V rfl (rest := [(.ref a54)]) rfl (hb hby at_262) (Nat.le_of_eq rfl) (by rw [hml]; rfl) (by decide) (by decide) (pc' := 265) rfl ?_
    intro v57 T57 L57 X57 q57
    obtain ⟨rfl, Nq57, K57, p57_0, p57_1⟩ := q57
    have N57 := Fr.app N52 Nq57
    show own_G p e below s _ _ _ (T57.setTop (mkF m 265 #[vL u0, vS, vL u1, vS, vL u2, vS, vL u3, vS, vL u4, vS, vI u5, vI ln, vI stt, vI (stt + ln), vR a2, vR a9, vL ((own_le8 g2_7 (stt + ((1 : Int32) * (8 : Int32))) (ln % (8 : Int32))) ||| (ln.toInt64 <<< ((56 : Int32) &&& 0x3f).toInt64)), vS, vL (((((own_round (own_round (own_round ((own_comp ((own_le8 g2_7 (stt + ((1 : Int32) * (8 : Int32))) (ln % (8 : Int32))) ||| (ln.toInt64 <<< ((56 : Int32) &&& 0x3f).toInt64)) (own_comp (own_le8 g2_7 stt (8 : Int32)) ((u0 ^^^ (8317987319222330741 : Int64)), (u1 ^^^ (7237128888997146477 : Int64)), (u0 ^^^ (7816392313619706465 : Int64)), (u1 ^^^ (8387220255154660723 : Int64))))).1, (own_comp ((own_le8 g2_7 (stt + ((1 : Int32) * (8 : Int32))) (ln % (8 : Int32))) ||| (ln.toInt64 <<< ((56 : Int32) &&& 0x3f).toInt64)) (own_comp (own_le8 g2_7 stt (8 : Int32)) ((u0 ^^^ (8317987319222330741 : Int64)), (u1 ^^^ (7237128888997146477 : Int64)), (u0 ^^^ (7816392313619706465 : Int64)), (u1 ^^^ (8387220255154660723 : Int64))))).2.1, (((own_comp ((own_le8 g2_7 (stt + ((1 : Int32) * (8 : Int32))) (ln % (8 : Int32))) ||| (ln.toInt64 <<< ((56 : Int32) &&& 0x3f).toInt64)) (own_comp (own_le8 g2_7 stt (8 : Int32)) ((u0 ^^^ (8317987319222330741 : Int64)), (u1 ^^^ (7237128888997146477 : Int64)), (u0 ^^^ (7816392313619706465 : Int64)), (u1 ^^^ (8387220255154660723 : Int64))))).2.2.1) ^^^ (255 : Int64)), (own_comp ((own_le8 g2_7 (stt + ((1 : Int32) * (8 : Int32))) (ln % (8 : Int32))) ||| (ln.toInt64 <<< ((56 : Int32) &&& 0x3f).toInt64)) (own_comp (own_le8 g2_7 stt (8 : Int32)) ((u0 ^^^ (8317987319222330741 : Int64)), (u1 ^^^ (7237128888997146477 : Int64)), (u0 ^^^ (7816392313619706465 : Int64)), (u1 ^^^ (8387220255154660723 : Int64))))).2.2.2)))).1) ^^^ ((own_round (own_round (own_round ((own_comp ((own_le8 g2_7 (stt + ((1 : Int32) * (8 : Int32))) (ln % (8 : Int32))) ||| (ln.toInt64 <<< ((56 : Int32) &&& 0x3f).toInt64)) (own_comp (own_le8 g2_7 stt (8 : Int32)) ((u0 ^^^ (8317987319222330741 : Int64)), (u1 ^^^ (7237128888997146477 : Int64)), (u0 ^^^ (7816392313619706465 : Int64)), (u1 ^^^ (8387220255154660723 : Int64))))).1, (own_comp ((own_le8 g2_7 (stt + ((1 : Int32) * (8 : Int32))) (ln % (8 : Int32))) ||| (ln.toInt64 <<< ((56 : Int32) &&& 0x3f).toInt64)) (own_comp (own_le8 g2_7 stt (8 : Int32)) ((u0 ^^^ (8317987319222330741 : Int64)), (u1 ^^^ (7237128888997146477 : Int64)), (u0 ^^^ (7816392313619706465 : Int64)), (u1 ^^^ (8387220255154660723 : Int64))))).2.1, (((own_comp ((own_le8 g2_7 (stt + ((1 : Int32) * (8 : Int32))) (ln % (8 : Int32))) ||| (ln.toInt64 <<< ((56 : Int32) &&& 0x3f).toInt64)) (own_comp (own_le8 g2_7 stt (8 : Int32)) ((u0 ^^^ (8317987319222330741 : Int64)), (u1 ^^^ (7237128888997146477 : Int64)), (u0 ^^^ (7816392313619706465 : Int64)), (u1 ^^^ (8387220255154660723 : Int64))))).2.2.1) ^^^ (255 : Int64)), (own_comp ((own_le8 g2_7 (stt + ((1 : Int32) * (8 : Int32))) (ln % (8 : Int32))) ||| (ln.toInt64 <<< ((56 : Int32) &&& 0x3f).toInt64)) (own_comp (own_le8 g2_7 stt (8 : Int32)) ((u0 ^^^ (8317987319222330741 : Int64)), (u1 ^^^ (7237128888997146477 : Int64)), (u0 ^^^ (7816392313619706465 : Int64)), (u1 ^^^ (8387220255154660723 : Int64))))).2.2.2)))).2.1)) ^^^ ((own_round (own_round (own_round ((own_comp ((own_le8 g2_7 (stt + ((1 : Int32) * (8 : Int32))) (ln % (8 : Int32))) ||| (ln.toInt64 <<< ((56 : Int32) &&& 0x3f).toInt64)) (own_comp (own_le8 g2_7 stt (8 : Int32)) ((u0 ^^^ (8317987319222330741 : Int64)), (u1 ^^^ (7237128888997146477 : Int64)), (u0 ^^^ (7816392313619706465 : Int64)), (u1 ^^^ (8387220255154660723 : Int64))))).1, (own_comp ((own_le8 g2_7 (stt + ((1 : Int32) * (8 : Int32))) (ln % (8 : Int32))) ||| (ln.toInt64 <<< ((56 : Int32) &&& 0x3f).toInt64)) (own_comp (own_le8 g2_7 stt (8 : Int32)) ((u0 ^^^ (8317987319222330741 : Int64)), (u1 ^^^ (7237128888997146477 : Int64)), (u0 ^^^ (7816392313619706465 : Int64)), (u1 ^^^ (8387220255154660723 : Int64))))).2.1, (((own_comp ((own_le8 g2_7 (stt + ((1 : Int32) * (8 : Int32))) (ln % (8 : Int32))) ||| (ln.toInt64 <<< ((56 : Int32) &&& 0x3f).toInt64)) (own_comp (own_le8 g2_7 stt (8 : Int32)) ((u0 ^^^ (8317987319222330741 : Int64)), (u1 ^^^ (7237128888997146477 : Int64)), (u0 ^^^ (7816392313619706465 : Int64)), (u1 ^^^ (8387220255154660723 : Int64))))).2.2.1) ^^^ (255 : Int64)), (own_comp ((own_le8 g2_7 (stt + ((1 : Int32) * (8 : Int32))) (ln % (8 : Int32))) ||| (ln.toInt64 <<< ((56 : Int32) &&& 0x3f).toInt64)) (own_comp (own_le8 g2_7 stt (8 : Int32)) ((u0 ^^^ (8317987319222330741 : Int64)), (u1 ^^^ (7237128888997146477 : Int64)), (u0 ^^^ (7816392313619706465 : Int64)), (u1 ^^^ (8387220255154660723 : Int64))))).2.2.2)))).2.2.1)) ^^^ ((own_round (own_round (own_round ((own_comp ((own_le8 g2_7 (stt + ((1 : Int32) * (8 : Int32))) (ln % (8 : Int32))) ||| (ln.toInt64 <<< ((56 : Int32) &&& 0x3f).toInt64)) (own_comp (own_le8 g2_7 stt (8 : Int32)) ((u0 ^^^ (8317987319222330741 : Int64)), (u1 ^^^ (7237128888997146477 : Int64)), (u0 ^^^ (7816392313619706465 : Int64)), (u1 ^^^ (8387220255154660723 : Int64))))).1, (own_comp ((own_le8 g2_7 (stt + ((1 : Int32) * (8 : Int32))) (ln % (8 : Int32))) ||| (ln.toInt64 <<< ((56 : Int32) &&& 0x3f).toInt64)) (own_comp (own_le8 g2_7 stt (8 : Int32)) ((u0 ^^^ (8317987319222330741 : Int64)), (u1 ^^^ (7237128888997146477 : Int64)), (u0 ^^^ (7816392313619706465 : Int64)), (u1 ^^^ (8387220255154660723 : Int64))))).2.1, (((own_comp ((own_le8 g2_7 (stt + ((1 : Int32) * (8 : Int32))) (ln % (8 : Int32))) ||| (ln.toInt64 <<< ((56 : Int32) &&& 0x3f).toInt64)) (own_comp (own_le8 g2_7 stt (8 : Int32)) ((u0 ^^^ (8317987319222330741 : Int64)), (u1 ^^^ (7237128888997146477 : Int64)), (u0 ^^^ (7816392313619706465 : Int64)), (u1 ^^^ (8387220255154660723 : Int64))))).2.2.1) ^^^ (255 : Int64)), (own_comp ((own_le8 g2_7 (stt + ((1 : Int32) * (8 : Int32))) (ln % (8 : Int32))) ||| (ln.toInt64 <<< ((56 : Int32) &&& 0x3f).toInt64)) (own_comp (own_le8 g2_7 stt (8 : Int32)) ((u0 ^^^ (8317987319222330741 : Int64)), (u1 ^^^ (7237128888997146477 : Int64)), (u0 ^^^ (7816392313619706465 : Int64)), (u1 ^^^ (8387220255154660723 : Int64))))).2.2.2)))).2.2.2)), vS, vU, vU] [(.ref a54)]))
    refine own_aload X57 hx (hb hby at_265) rfl rfl (pc' := 267) rfl ?_
    refine own_iload X57 hx (hb hby at_267) rfl (pc' := 269) rfl ?_
    refine own_iload X57 hx (hb hby at_269) rfl (pc' := 271) rfl ?_
    have f60 : own_AI Z T57.heap a2 .byte (24 : Int32) g2_7 := ((f56.ext E54).keep K57 (ninS (Nat.ne_of_lt lt_a2_a54) nin0))
    have z61 : n0 ≤ T57.heap.size := (Nat.le_trans z58 K57.1)
    have f62 : Exa Z T57.heap a54 "com/example/structlane/structlane/header/SipHash" := (A54.keep K57)
    refine own_callV X57 hx hZ hown (ow_40 hw) (ow_41 hw) (ow_43 hw) (ow_42 hw) (ow_29 hw) (ow_44 hw) (by decide) f62 (rm_hash1 l Z a0 hw a54 a2 stt (stt + ln) u0 u1 g2_7 T57.heap n0 z61 p57_0 p57_1 f60 hS.1 (by have q := own_addk stt ln (by omega) (by omega); omega) (by rw [own_canc]; exact c16)) rfl (W := 0) (by decide) (by decide) opd___BII_J rfl (rest := []) rfl (hb hby at_271) (Nat.le_of_eq rfl) (by rw [hml]; rfl) (by decide) (by decide) (pc' := 274) rfl ?_
    intro v59 T59 L59 X59 q59
    obtain ⟨rfl, Nq59, eh59⟩ := q59
    have N59 := Fr.app N57 Nq59
    show own_G p e below s _ _ _ (T59.setTop (mkF m 274 #[vL u0, vS, vL u1, vS, vL u2, vS, vL u3, vS, vL u4, vS, vI u5, vI ln, vI stt, vI (stt + ln), vR a2, vR a9, vL ((own_le8 g2_7 (stt + ((1 : Int32) * (8 : Int32))) (ln % (8 : Int32))) ||| (ln.toInt64 <<< ((56 : Int32) &&& 0x3f).toInt64)), vS, vL (((((own_round (own_round (own_round ((own_comp ((own_le8 g2_7 (stt + ((1 : Int32) * (8 : Int32))) (ln % (8 : Int32))) ||| (ln.toInt64 <<< ((56 : Int32) &&& 0x3f).toInt64)) (own_comp (own_le8 g2_7 stt (8 : Int32)) ((u0 ^^^ (8317987319222330741 : Int64)), (u1 ^^^ (7237128888997146477 : Int64)), (u0 ^^^ (7816392313619706465 : Int64)), (u1 ^^^ (8387220255154660723 : Int64))))).1, (own_comp ((own_le8 g2_7 (stt + ((1 : Int32) * (8 : Int32))) (ln % (8 : Int32))) ||| (ln.toInt64 <<< ((56 : Int32) &&& 0x3f).toInt64)) (own_comp (own_le8 g2_7 stt (8 : Int32)) ((u0 ^^^ (8317987319222330741 : Int64)), (u1 ^^^ (7237128888997146477 : Int64)), (u0 ^^^ (7816392313619706465 : Int64)), (u1 ^^^ (8387220255154660723 : Int64))))).2.1, (((own_comp ((own_le8 g2_7 (stt + ((1 : Int32) * (8 : Int32))) (ln % (8 : Int32))) ||| (ln.toInt64 <<< ((56 : Int32) &&& 0x3f).toInt64)) (own_comp (own_le8 g2_7 stt (8 : Int32)) ((u0 ^^^ (8317987319222330741 : Int64)), (u1 ^^^ (7237128888997146477 : Int64)), (u0 ^^^ (7816392313619706465 : Int64)), (u1 ^^^ (8387220255154660723 : Int64))))).2.2.1) ^^^ (255 : Int64)), (own_comp ((own_le8 g2_7 (stt + ((1 : Int32) * (8 : Int32))) (ln % (8 : Int32))) ||| (ln.toInt64 <<< ((56 : Int32) &&& 0x3f).toInt64)) (own_comp (own_le8 g2_7 stt (8 : Int32)) ((u0 ^^^ (8317987319222330741 : Int64)), (u1 ^^^ (7237128888997146477 : Int64)), (u0 ^^^ (7816392313619706465 : Int64)), (u1 ^^^ (8387220255154660723 : Int64))))).2.2.2)))).1) ^^^ ((own_round (own_round (own_round ((own_comp ((own_le8 g2_7 (stt + ((1 : Int32) * (8 : Int32))) (ln % (8 : Int32))) ||| (ln.toInt64 <<< ((56 : Int32) &&& 0x3f).toInt64)) (own_comp (own_le8 g2_7 stt (8 : Int32)) ((u0 ^^^ (8317987319222330741 : Int64)), (u1 ^^^ (7237128888997146477 : Int64)), (u0 ^^^ (7816392313619706465 : Int64)), (u1 ^^^ (8387220255154660723 : Int64))))).1, (own_comp ((own_le8 g2_7 (stt + ((1 : Int32) * (8 : Int32))) (ln % (8 : Int32))) ||| (ln.toInt64 <<< ((56 : Int32) &&& 0x3f).toInt64)) (own_comp (own_le8 g2_7 stt (8 : Int32)) ((u0 ^^^ (8317987319222330741 : Int64)), (u1 ^^^ (7237128888997146477 : Int64)), (u0 ^^^ (7816392313619706465 : Int64)), (u1 ^^^ (8387220255154660723 : Int64))))).2.1, (((own_comp ((own_le8 g2_7 (stt + ((1 : Int32) * (8 : Int32))) (ln % (8 : Int32))) ||| (ln.toInt64 <<< ((56 : Int32) &&& 0x3f).toInt64)) (own_comp (own_le8 g2_7 stt (8 : Int32)) ((u0 ^^^ (8317987319222330741 : Int64)), (u1 ^^^ (7237128888997146477 : Int64)), (u0 ^^^ (7816392313619706465 : Int64)), (u1 ^^^ (8387220255154660723 : Int64))))).2.2.1) ^^^ (255 : Int64)), (own_comp ((own_le8 g2_7 (stt + ((1 : Int32) * (8 : Int32))) (ln % (8 : Int32))) ||| (ln.toInt64 <<< ((56 : Int32) &&& 0x3f).toInt64)) (own_comp (own_le8 g2_7 stt (8 : Int32)) ((u0 ^^^ (8317987319222330741 : Int64)), (u1 ^^^ (7237128888997146477 : Int64)), (u0 ^^^ (7816392313619706465 : Int64)), (u1 ^^^ (8387220255154660723 : Int64))))).2.2.2)))).2.1)) ^^^ ((own_round (own_round (own_round ((own_comp ((own_le8 g2_7 (stt + ((1 : Int32) * (8 : Int32))) (ln % (8 : Int32))) ||| (ln.toInt64 <<< ((56 : Int32) &&& 0x3f).toInt64)) (own_comp (own_le8 g2_7 stt (8 : Int32)) ((u0 ^^^ (8317987319222330741 : Int64)), (u1 ^^^ (7237128888997146477 : Int64)), (u0 ^^^ (7816392313619706465 : Int64)), (u1 ^^^ (8387220255154660723 : Int64))))).1, (own_comp ((own_le8 g2_7 (stt + ((1 : Int32) * (8 : Int32))) (ln % (8 : Int32))) ||| (ln.toInt64 <<< ((56 : Int32) &&& 0x3f).toInt64)) (own_comp (own_le8 g2_7 stt (8 : Int32)) ((u0 ^^^ (8317987319222330741 : Int64)), (u1 ^^^ (7237128888997146477 : Int64)), (u0 ^^^ (7816392313619706465 : Int64)), (u1 ^^^ (8387220255154660723 : Int64))))).2.1, (((own_comp ((own_le8 g2_7 (stt + ((1 : Int32) * (8 : Int32))) (ln % (8 : Int32))) ||| (ln.toInt64 <<< ((56 : Int32) &&& 0x3f).toInt64)) (own_comp (own_le8 g2_7 stt (8 : Int32)) ((u0 ^^^ (8317987319222330741 : Int64)), (u1 ^^^ (7237128888997146477 : Int64)), (u0 ^^^ (7816392313619706465 : Int64)), (u1 ^^^ (8387220255154660723 : Int64))))).2.2.1) ^^^ (255 : Int64)), (own_comp ((own_le8 g2_7 (stt + ((1 : Int32) * (8 : Int32))) (ln % (8 : Int32))) ||| (ln.toInt64 <<< ((56 : Int32) &&& 0x3f).toInt64)) (own_comp (own_le8 g2_7 stt (8 : Int32)) ((u0 ^^^ (8317987319222330741 : Int64)), (u1 ^^^ (7237128888997146477 : Int64)), (u0 ^^^ (7816392313619706465 : Int64)), (u1 ^^^ (8387220255154660723 : Int64))))).2.2.2)))).2.2.1)) ^^^ ((own_round (own_round (own_round ((own_comp ((own_le8 g2_7 (stt + ((1 : Int32) * (8 : Int32))) (ln % (8 : Int32))) ||| (ln.toInt64 <<< ((56 : Int32) &&& 0x3f).toInt64)) (own_comp (own_le8 g2_7 stt (8 : Int32)) ((u0 ^^^ (8317987319222330741 : Int64)), (u1 ^^^ (7237128888997146477 : Int64)), (u0 ^^^ (7816392313619706465 : Int64)), (u1 ^^^ (8387220255154660723 : Int64))))).1, (own_comp ((own_le8 g2_7 (stt + ((1 : Int32) * (8 : Int32))) (ln % (8 : Int32))) ||| (ln.toInt64 <<< ((56 : Int32) &&& 0x3f).toInt64)) (own_comp (own_le8 g2_7 stt (8 : Int32)) ((u0 ^^^ (8317987319222330741 : Int64)), (u1 ^^^ (7237128888997146477 : Int64)), (u0 ^^^ (7816392313619706465 : Int64)), (u1 ^^^ (8387220255154660723 : Int64))))).2.1, (((own_comp ((own_le8 g2_7 (stt + ((1 : Int32) * (8 : Int32))) (ln % (8 : Int32))) ||| (ln.toInt64 <<< ((56 : Int32) &&& 0x3f).toInt64)) (own_comp (own_le8 g2_7 stt (8 : Int32)) ((u0 ^^^ (8317987319222330741 : Int64)), (u1 ^^^ (7237128888997146477 : Int64)), (u0 ^^^ (7816392313619706465 : Int64)), (u1 ^^^ (8387220255154660723 : Int64))))).2.2.1) ^^^ (255 : Int64)), (own_comp ((own_le8 g2_7 (stt + ((1 : Int32) * (8 : Int32))) (ln % (8 : Int32))) ||| (ln.toInt64 <<< ((56 : Int32) &&& 0x3f).toInt64)) (own_comp (own_le8 g2_7 stt (8 : Int32)) ((u0 ^^^ (8317987319222330741 : Int64)), (u1 ^^^ (7237128888997146477 : Int64)), (u0 ^^^ (7816392313619706465 : Int64)), (u1 ^^^ (8387220255154660723 : Int64))))).2.2.2)))).2.2.2)), vS, vU, vU] [(.long (own_x4 (own_comp (0 : Int64) (own_comp (0 : Int64) (own_comp (0 : Int64) (own_ff (own_comp ((own_le8 g2_7 (stt + ((1 : Int32) * (8 : Int32))) ((stt + ln) - (stt + ((1 : Int32) * (8 : Int32))))) ||| (((stt + ln) - stt).toInt64 <<< ((56 : Int32) &&& 0x3f).toInt64)) (own_comp (own_le8 g2_7 (stt + ((0 : Int32) * (8 : Int32))) (8 : Int32)) ((u0 ^^^ (8317987319222330741 : Int64)), (u1 ^^^ (7237128888997146477 : Int64)), (u0 ^^^ (7816392313619706465 : Int64)), (u1 ^^^ (8387220255154660723 : Int64)))))))))))]))
    refine own_lstore X59 hx (hb hby at_274) (l' := #[vL u0, vS, vL u1, vS, vL u2, vS, vL u3, vS, vL u4, vS, vI u5, vI ln, vI stt, vI (stt + ln), vR a2, vR a9, vL ((own_le8 g2_7 (stt + ((1 : Int32) * (8 : Int32))) (ln % (8 : Int32))) ||| (ln.toInt64 <<< ((56 : Int32) &&& 0x3f).toInt64)), vS, vL (((((own_round (own_round (own_round ((own_comp ((own_le8 g2_7 (stt + ((1 : Int32) * (8 : Int32))) (ln % (8 : Int32))) ||| (ln.toInt64 <<< ((56 : Int32) &&& 0x3f).toInt64)) (own_comp (own_le8 g2_7 stt (8 : Int32)) ((u0 ^^^ (8317987319222330741 : Int64)), (u1 ^^^ (7237128888997146477 : Int64)), (u0 ^^^ (7816392313619706465 : Int64)), (u1 ^^^ (8387220255154660723 : Int64))))).1, (own_comp ((own_le8 g2_7 (stt + ((1 : Int32) * (8 : Int32))) (ln % (8 : Int32))) ||| (ln.toInt64 <<< ((56 : Int32) &&& 0x3f).toInt64)) (own_comp (own_le8 g2_7 stt (8 : Int32)) ((u0 ^^^ (8317987319222330741 : Int64)), (u1 ^^^ (7237128888997146477 : Int64)), (u0 ^^^ (7816392313619706465 : Int64)), (u1 ^^^ (8387220255154660723 : Int64))))).2.1, (((own_comp ((own_le8 g2_7 (stt + ((1 : Int32) * (8 : Int32))) (ln % (8 : Int32))) ||| (ln.toInt64 <<< ((56 : Int32) &&& 0x3f).toInt64)) (own_comp (own_le8 g2_7 stt (8 : Int32)) ((u0 ^^^ (8317987319222330741 : Int64)), (u1 ^^^ (7237128888997146477 : Int64)), (u0 ^^^ (7816392313619706465 : Int64)), (u1 ^^^ (8387220255154660723 : Int64))))).2.2.1) ^^^ (255 : Int64)), (own_comp ((own_le8 g2_7 (stt + ((1 : Int32) * (8 : Int32))) (ln % (8 : Int32))) ||| (ln.toInt64 <<< ((56 : Int32) &&& 0x3f).toInt64)) (own_comp (own_le8 g2_7 stt (8 : Int32)) ((u0 ^^^ (8317987319222330741 : Int64)), (u1 ^^^ (7237128888997146477 : Int64)), (u0 ^^^ (7816392313619706465 : Int64)), (u1 ^^^ (8387220255154660723 : Int64))))).2.2.2)))).1) ^^^ ((own_round (own_round (own_round ((own_comp ((own_le8 g2_7 (stt + ((1 : Int32) * (8 : Int32))) (ln % (8 : Int32))) ||| (ln.toInt64 <<< ((56 : Int32) &&& 0x3f).toInt64)) (own_comp (own_le8 g2_7 stt (8 : Int32)) ((u0 ^^^ (8317987319222330741 : Int64)), (u1 ^^^ (7237128888997146477 : Int64)), (u0 ^^^ (7816392313619706465 : Int64)), (u1 ^^^ (8387220255154660723 : Int64))))).1, (own_comp ((own_le8 g2_7 (stt + ((1 : Int32) * (8 : Int32))) (ln % (8 : Int32))) ||| (ln.toInt64 <<< ((56 : Int32) &&& 0x3f).toInt64)) (own_comp (own_le8 g2_7 stt (8 : Int32)) ((u0 ^^^ (8317987319222330741 : Int64)), (u1 ^^^ (7237128888997146477 : Int64)), (u0 ^^^ (7816392313619706465 : Int64)), (u1 ^^^ (8387220255154660723 : Int64))))).2.1, (((own_comp ((own_le8 g2_7 (stt + ((1 : Int32) * (8 : Int32))) (ln % (8 : Int32))) ||| (ln.toInt64 <<< ((56 : Int32) &&& 0x3f).toInt64)) (own_comp (own_le8 g2_7 stt (8 : Int32)) ((u0 ^^^ (8317987319222330741 : Int64)), (u1 ^^^ (7237128888997146477 : Int64)), (u0 ^^^ (7816392313619706465 : Int64)), (u1 ^^^ (8387220255154660723 : Int64))))).2.2.1) ^^^ (255 : Int64)), (own_comp ((own_le8 g2_7 (stt + ((1 : Int32) * (8 : Int32))) (ln % (8 : Int32))) ||| (ln.toInt64 <<< ((56 : Int32) &&& 0x3f).toInt64)) (own_comp (own_le8 g2_7 stt (8 : Int32)) ((u0 ^^^ (8317987319222330741 : Int64)), (u1 ^^^ (7237128888997146477 : Int64)), (u0 ^^^ (7816392313619706465 : Int64)), (u1 ^^^ (8387220255154660723 : Int64))))).2.2.2)))).2.1)) ^^^ ((own_round (own_round (own_round ((own_comp ((own_le8 g2_7 (stt + ((1 : Int32) * (8 : Int32))) (ln % (8 : Int32))) ||| (ln.toInt64 <<< ((56 : Int32) &&& 0x3f).toInt64)) (own_comp (own_le8 g2_7 stt (8 : Int32)) ((u0 ^^^ (8317987319222330741 : Int64)), (u1 ^^^ (7237128888997146477 : Int64)), (u0 ^^^ (7816392313619706465 : Int64)), (u1 ^^^ (8387220255154660723 : Int64))))).1, (own_comp ((own_le8 g2_7 (stt + ((1 : Int32) * (8 : Int32))) (ln % (8 : Int32))) ||| (ln.toInt64 <<< ((56 : Int32) &&& 0x3f).toInt64)) (own_comp (own_le8 g2_7 stt (8 : Int32)) ((u0 ^^^ (8317987319222330741 : Int64)), (u1 ^^^ (7237128888997146477 : Int64)), (u0 ^^^ (7816392313619706465 : Int64)), (u1 ^^^ (8387220255154660723 : Int64))))).2.1, (((own_comp ((own_le8 g2_7 (stt + ((1 : Int32) * (8 : Int32))) (ln % (8 : Int32))) ||| (ln.toInt64 <<< ((56 : Int32) &&& 0x3f).toInt64)) (own_comp (own_le8 g2_7 stt (8 : Int32)) ((u0 ^^^ (8317987319222330741 : Int64)), (u1 ^^^ (7237128888997146477 : Int64)), (u0 ^^^ (7816392313619706465 : Int64)), (u1 ^^^ (8387220255154660723 : Int64))))).2.2.1) ^^^ (255 : Int64)), (own_comp ((own_le8 g2_7 (stt + ((1 : Int32) * (8 : Int32))) (ln % (8 : Int32))) ||| (ln.toInt64 <<< ((56 : Int32) &&& 0x3f).toInt64)) (own_comp (own_le8 g2_7 stt (8 : Int32)) ((u0 ^^^ (8317987319222330741 : Int64)), (u1 ^^^ (7237128888997146477 : Int64)), (u0 ^^^ (7816392313619706465 : Int64)), (u1 ^^^ (8387220255154660723 : Int64))))).2.2.2)))).2.2.1)) ^^^ ((own_round (own_round (own_round ((own_comp ((own_le8 g2_7 (stt + ((1 : Int32) * (8 : Int32))) (ln % (8 : Int32))) ||| (ln.toInt64 <<< ((56 : Int32) &&& 0x3f).toInt64)) (own_comp (own_le8 g2_7 stt (8 : Int32)) ((u0 ^^^ (8317987319222330741 : Int64)), (u1 ^^^ (7237128888997146477 : Int64)), (u0 ^^^ (7816392313619706465 : Int64)), (u1 ^^^ (8387220255154660723 : Int64))))).1, (own_comp ((own_le8 g2_7 (stt + ((1 : Int32) * (8 : Int32))) (ln % (8 : Int32))) ||| (ln.toInt64 <<< ((56 : Int32) &&& 0x3f).toInt64)) (own_comp (own_le8 g2_7 stt (8 : Int32)) ((u0 ^^^ (8317987319222330741 : Int64)), (u1 ^^^ (7237128888997146477 : Int64)), (u0 ^^^ (7816392313619706465 : Int64)), (u1 ^^^ (8387220255154660723 : Int64))))).2.1, (((own_comp ((own_le8 g2_7 (stt + ((1 : Int32) * (8 : Int32))) (ln % (8 : Int32))) ||| (ln.toInt64 <<< ((56 : Int32) &&& 0x3f).toInt64)) (own_comp (own_le8 g2_7 stt (8 : Int32)) ((u0 ^^^ (8317987319222330741 : Int64)), (u1 ^^^ (7237128888997146477 : Int64)), (u0 ^^^ (7816392313619706465 : Int64)), (u1 ^^^ (8387220255154660723 : Int64))))).2.2.1) ^^^ (255 : Int64)), (own_comp ((own_le8 g2_7 (stt + ((1 : Int32) * (8 : Int32))) (ln % (8 : Int32))) ||| (ln.toInt64 <<< ((56 : Int32) &&& 0x3f).toInt64)) (own_comp (own_le8 g2_7 stt (8 : Int32)) ((u0 ^^^ (8317987319222330741 : Int64)), (u1 ^^^ (7237128888997146477 : Int64)), (u0 ^^^ (7816392313619706465 : Int64)), (u1 ^^^ (8387220255154660723 : Int64))))).2.2.2)))).2.2.2)), vS, vL (own_x4 (own_comp (0 : Int64) (own_comp (0 : Int64) (own_comp (0 : Int64) (own_ff (own_comp ((own_le8 g2_7 (stt + ((1 : Int32) * (8 : Int32))) ((stt + ln) - (stt + ((1 : Int32) * (8 : Int32))))) ||| (((stt + ln) - stt).toInt64 <<< ((56 : Int32) &&& 0x3f).toInt64)) (own_comp (own_le8 g2_7 (stt + ((0 : Int32) * (8 : Int32))) (8 : Int32)) ((u0 ^^^ (8317987319222330741 : Int64)), (u1 ^^^ (7237128888997146477 : Int64)), (u0 ^^^ (7816392313619706465 : Int64)), (u1 ^^^ (8387220255154660723 : Int64)))))))))), vS]) rfl (pc' := 276) rfl ?_
    refine own_lload X59 hx (hb hby at_276) rfl (pc' := 278) rfl ?_
    refine own_lload X59 hx (hb hby at_278) rfl (pc' := 280) rfl ?_
    refine own_lcmp X59 hx (hb hby at_280) (pc' := 281) rfl ?_
    refine own_ifF X59 hx (hb hby at_281) (own_eqL (by rw [own_end, own_canc, (show (stt + ((0 : Int32) * (8 : Int32))) = stt from own_z stt), own_rem stt ln (1 : Int32) hS hL.1 (by decide) (by simp only [Int32.reduceToInt]; omega)]; rfl)).2 (pc' := 284) rfl ?_
    refine own_iconst X59 hx (hb hby at_284) (z := (1 : Int32)) rfl (pc' := 285) rfl ?_
    refine own_goto X59 hx (hb hby at_285) (by decide) (pc' := 289) rfl ?_
    exact own_retZ X59 hx hret hlk (Or.inr rfl) (hb hby at_289) ⟨rfl, N59⟩ (by decide) (by decide)
  · have hB := own_blk hL.1 c17
    simp only [Int32.reduceToInt] at hB
    refine own_iload X14 hx (hb hby at_104) rfl (pc' := 106) rfl ?_
    refine own_bipush X14 hx (hb hby at_106) (z := (8 : Int32)) (by decide) (pc' := 108) rfl ?_
    refine own_icmpF X14 hx (hb hby at_108) (flt (by simp only [Int32.lt_iff_toInt_lt, Int32.reduceToInt]; omega)).1 (pc' := 111) rfl ?_
    refine own_aload X14 hx (hb hby at_111) rfl rfl (pc' := 113) rfl ?_
    refine own_aload X14 hx (hb hby at_113) rfl rfl (pc' := 115) rfl ?_
    refine own_iload X14 hx (hb hby at_115) rfl (pc' := 117) rfl ?_
    refine own_bipush X14 hx (hb hby at_117) (z := (8 : Int32)) (by decide) (pc' := 119) rfl ?_
    have f64 : own_AI Z h14 a2 .byte (24 : Int32) g2_7 := (((((p7_0.ext E9).other W11 (Nat.ne_of_lt lt_a2_a9)).other W12 (Nat.ne_of_lt lt_a2_a9)).other W13 (Nat.ne_of_lt lt_a2_a9)).other W14 (Nat.ne_of_lt lt_a2_a9))
    have z65 : n0 ≤ h14.size := (Nat.le_trans (Nat.le_trans (Nat.le_trans (Nat.le_trans (Nat.le_trans z10 E9.1) (Nat.le_of_eq (Wr.size W11).symm)) (Nat.le_of_eq (Wr.size W12).symm)) (Nat.le_of_eq (Wr.size W13).symm)) (Nat.le_of_eq (Wr.size W14).symm))
    refine own_callS X14 hx hZ hown (ow_14 hw) (ow_15 hw) (ow_7 hw) (ow_16 hw) (by decide) (rm_le8 l Z a0 hw a2 stt (8 : Int32) g2_7 h14 n0 z65 f64 hS.1 (by simp only [Int32.reduceToInt]; omega)) e14 (W := 1) (by decide) (by decide) opd___BII_J rfl (rest := [(.ref a9)]) rfl (hb hby at_119) (Nat.le_of_eq rfl) (by rw [hml]; rfl) (by decide) (by decide) (pc' := 122) rfl ?_
    intro v63 T63 L63 X63 q63
    obtain ⟨rfl, Nq63, eh63⟩ := q63
    have N63 := Fr.app N14 Nq63
    show own_G p e below s _ _ _ (T63.setTop (mkF m 122 #[vL u0, vS, vL u1, vS, vL u2, vS, vL u3, vS, vL u4, vS, vI u5, vI ln, vI stt, vI (stt + ln), vR a2, vR a9, vU, vU, vU, vU, vU, vU] [(.long (own_le8 g2_7 stt (8 : Int32))), (.ref a9)]))
    refine own_callS X63 hx hZ hown (ow_17 hw) (ow_18 hw) (ow_7 hw) (ow_19 hw) (by decide) (rm_comp l Z a0 hw a9 (own_le8 g2_7 stt (8 : Int32)) ((u0 ^^^ (8317987319222330741 : Int64)), (u1 ^^^ (7237128888997146477 : Int64)), (u0 ^^^ (7816392313619706465 : Int64)), (u1 ^^^ (8387220255154660723 : Int64))) h14 n0 z65 A14 ge_a9) eh63 (W := 0) (by decide) (by decide) opd___JJ_V rfl (rest := []) rfl (hb hby at_122) (Nat.le_of_eq rfl) (by rw [hml]; rfl) (by decide) (by decide) (pc' := 125) rfl ?_
    intro v66 T66 L66 X66 q66
    obtain ⟨rfl, Nq66, K66, p66_0⟩ := q66
    have N66 := Fr.app N63 Nq66
    show own_G p e below s _ _ _ (T66.setTop (mkF m 125 #[vL u0, vS, vL u1, vS, vL u2, vS, vL u3, vS, vL u4, vS, vI u5, vI ln, vI stt, vI (stt + ln), vR a2, vR a9, vU, vU, vU, vU, vU, vU] []))
    refine own_iload X66 hx (hb hby at_125) rfl (pc' := 127) rfl ?_
    refine own_bipush X66 hx (hb hby at_127) (z := (16 : Int32)) (by decide) (pc' := 129) rfl ?_
    refine own_icmpF X66 hx (hb hby at_129) (flt (by simp only [Int32.lt_iff_toInt_lt, Int32.reduceToInt]; omega)).1 (pc' := 132) rfl ?_
    refine own_aload X66 hx (hb hby at_132) rfl rfl (pc' := 134) rfl ?_
    refine own_aload X66 hx (hb hby at_134) rfl rfl (pc' := 136) rfl ?_
    refine own_iload X66 hx (hb hby at_136) rfl (pc' := 138) rfl ?_
    refine own_bipush X66 hx (hb hby at_138) (z := (8 : Int32)) (by decide) (pc' := 140) rfl ?_
    refine own_iadd X66 hx (hb hby at_140) (pc' := 141) rfl ?_
    refine own_bipush X66 hx (hb hby at_141) (z := (8 : Int32)) (by decide) (pc' := 143) rfl ?_
    have f68 : own_AI Z T66.heap a2 .byte (24 : Int32) g2_7 := (f64.keep K66 (ninS (Nat.ne_of_lt lt_a2_a9) nin0))
    have z69 : n0 ≤ T66.heap.size := (Nat.le_trans z65 K66.1)
    refine own_callS X66 hx hZ hown (ow_14 hw) (ow_15 hw) (ow_7 hw) (ow_16 hw) (by decide) (rm_le8 l Z a0 hw a2 (stt + (8 : Int32)) (8 : Int32) g2_7 T66.heap n0 z69 f68 (by have q := own_addk stt (8 : Int32) (by omega) (by decide); simp only [Int32.reduceToInt] at q ⊢; omega) (by have q := own_addk stt (8 : Int32) (by omega) (by decide); simp only [Int32.reduceToInt] at q ⊢; omega)) rfl (W := 1) (by decide) (by decide) opd___BII_J rfl (rest := [(.ref a9)]) rfl (hb hby at_143) (Nat.le_of_eq rfl) (by rw [hml]; rfl) (by decide) (by decide) (pc' := 146) rfl ?_
    intro v67 T67 L67 X67 q67
    obtain ⟨rfl, Nq67, eh67⟩ := q67
    have N67 := Fr.app N66 Nq67
    show own_G p e below s _ _ _ (T67.setTop (mkF m 146 #[vL u0, vS, vL u1, vS, vL u2, vS, vL u3, vS, vL u4, vS, vI u5, vI ln, vI stt, vI (stt + ln), vR a2, vR a9, vU, vU, vU, vU, vU, vU] [(.long (own_le8 g2_7 (stt + (8 : Int32)) (8 : Int32))), (.ref a9)]))
    refine own_callS X67 hx hZ hown (ow_17 hw) (ow_18 hw) (ow_7 hw) (ow_19 hw) (by decide) (rm_comp l Z a0 hw a9 (own_le8 g2_7 (stt + (8 : Int32)) (8 : Int32)) (own_comp (own_le8 g2_7 stt (8 : Int32)) ((u0 ^^^ (8317987319222330741 : Int64)), (u1 ^^^ (7237128888997146477 : Int64)), (u0 ^^^ (7816392313619706465 : Int64)), (u1 ^^^ (8387220255154660723 : Int64)))) T66.heap n0 z69 p66_0 ge_a9) eh67 (W := 0) (by decide) (by decide) opd___JJ_V rfl (rest := []) rfl (hb hby at_146) (Nat.le_of_eq rfl) (by rw [hml]; rfl) (by decide) (by decide) (pc' := 149) rfl ?_
    intro v70 T70 L70 X70 q70
    obtain ⟨rfl, Nq70, K70, p70_0⟩ := q70
    have N70 := Fr.app N67 Nq70
    show own_G p e below s _ _ _ (T70.setTop (mkF m 149 #[vL u0, vS, vL u1, vS, vL u2, vS, vL u3, vS, vL u4, vS, vI u5, vI ln, vI stt, vI (stt + ln), vR a2, vR a9, vU, vU, vU, vU, vU, vU] []))
    refine own_iload X70 hx (hb hby at_149) rfl (pc' := 151) rfl ?_
    refine own_bipush X70 hx (hb hby at_151) (z := (24 : Int32)) (by decide) (pc' := 153) rfl ?_
    refine own_icmpT X70 hx (hb hby at_153) (tlt (by simp only [Int32.lt_iff_toInt_lt, Int32.reduceToInt]; omega)).1 (by decide) (pc' := 173) rfl ?_
    refine own_aload X70 hx (hb hby at_173) rfl rfl (pc' := 175) rfl ?_
    refine own_iload X70 hx (hb hby at_175) rfl (pc' := 177) rfl ?_
    refine own_iload X70 hx (hb hby at_177) rfl (pc' := 179) rfl ?_
    refine own_bipush X70 hx (hb hby at_179) (z := (8 : Int32)) (by decide) (pc' := 181) rfl ?_
    refine own_idiv X70 hx (hb hby at_181) (by decide) (pc' := 182) rfl ?_
    rw [c17]
    refine own_bipush X70 hx (hb hby at_182) (z := (8 : Int32)) (by decide) (pc' := 184) rfl ?_
    refine own_imul X70 hx (hb hby at_184) (pc' := 185) rfl ?_
    refine own_iadd X70 hx (hb hby at_185) (pc' := 186) rfl ?_
    refine own_iload X70 hx (hb hby at_186) rfl (pc' := 188) rfl ?_
    refine own_bipush X70 hx (hb hby at_188) (z := (8 : Int32)) (by decide) (pc' := 190) rfl ?_
    refine own_irem X70 hx (hb hby at_190) (by decide) (pc' := 191) rfl ?_
    have f72 : own_AI Z T70.heap a2 .byte (24 : Int32) g2_7 := (f68.keep K70 (ninS (Nat.ne_of_lt lt_a2_a9) nin0))
    have z73 : n0 ≤ T70.heap.size := (Nat.le_trans z69 K70.1)
    refine own_callS X70 hx hZ hown (ow_14 hw) (ow_15 hw) (ow_7 hw) (ow_16 hw) (by decide) (rm_le8 l Z a0 hw a2 (stt + ((2 : Int32) * (8 : Int32))) (ln % (8 : Int32)) g2_7 T70.heap n0 z73 f72 (by have q := own_offk stt (2 : Int32) (by omega) (by decide); have q2 := (c_irem ln 8 8 rfl).1 hL.1; simp only [Int32.reduceToInt] at q; omega) (by have q := own_offk stt (2 : Int32) (by omega) (by decide); have q2 := (c_irem ln 8 8 rfl).1 hL.1; simp only [Int32.reduceToInt] at q; omega)) rfl (W := 0) (by decide) (by decide) opd___BII_J rfl (rest := []) rfl (hb hby at_191) (Nat.le_of_eq rfl) (by rw [hml]; rfl) (by decide) (by decide) (pc' := 194) rfl ?_
    intro v71 T71 L71 X71 q71
    obtain ⟨rfl, Nq71, eh71⟩ := q71
    have N71 := Fr.app N70 Nq71
    show own_G p e below s _ _ _ (T71.setTop (mkF m 194 #[vL u0, vS, vL u1, vS, vL u2, vS, vL u3, vS, vL u4, vS, vI u5, vI ln, vI stt, vI (stt + ln), vR a2, vR a9, vU, vU, vU, vU, vU, vU] [(.long (own_le8 g2_7 (stt + ((2 : Int32) * (8 : Int32))) (ln % (8 : Int32))))]))
    refine own_iload X71 hx (hb hby at_194) rfl (pc' := 196) rfl ?_
    refine own_i2l X71 hx (hb hby at_196) (pc' := 197) rfl ?_
    refine own_bipush X71 hx (hb hby at_197) (z := (56 : Int32)) (by decide) (pc' := 199) rfl ?_
    refine own_lshl X71 hx (hb hby at_199) (pc' := 200) rfl ?_
    refine own_lor X71 hx (hb hby at_200) (pc' := 201) rfl ?_
    refine own_lstore X71 hx (hb hby at_201) (l' := #[vL u0, vS, vL u1, vS, vL u2, vS, vL u3, vS, vL u4, vS, vI u5, vI ln, vI stt, vI (stt + ln), vR a2, vR a9, vL ((own_le8 g2_7 (stt + ((2 : Int32) * (8 : Int32))) (ln % (8 : Int32))) ||| (ln.toInt64 <<< ((56 : Int32) &&& 0x3f).toInt64)), vS, vU, vU, vU, vU]) rfl (pc' := 203) rfl ?_
    refine own_aload X71 hx (hb hby at_203) rfl rfl (pc' := 205) rfl ?_
    refine own_lload X71 hx (hb hby at_205) rfl (pc' := 207) rfl ?_
    refine own_callS X71 hx hZ hown (ow_17 hw) (ow_18 hw) (ow_7 hw) (ow_19 hw) (by decide) (rm_comp l Z a0 hw a9 ((own_le8 g2_7 (stt + ((2 : Int32) * (8 : Int32))) (ln % (8 : Int32))) ||| (ln.toInt64 <<< ((56 : Int32) &&& 0x3f).toInt64)) (own_comp (own_le8 g2_7 (stt + (8 : Int32)) (8 : Int32)) (own_comp (own_le8 g2_7 stt (8 : Int32)) ((u0 ^^^ (8317987319222330741 : Int64)), (u1 ^^^ (7237128888997146477 : Int64)), (u0 ^^^ (7816392313619706465 : Int64)), (u1 ^^^ (8387220255154660723 : Int64))))) T70.heap n0 z73 p70_0 ge_a9) eh71 (W := 0) (by decide) (by decide) opd___JJ_V rfl (rest := []) rfl (hb hby at_207) (Nat.le_of_eq rfl) (by rw [hml]; rfl) (by decide) (by decide) (pc' := 210) rfl ?_
    intro v74 T74 L74 X74 q74
    obtain ⟨rfl, Nq74, K74, p74_0⟩ := q74
    have N74 := Fr.app N71 Nq74
    show own_G p e below s _ _ _ (T74.setTop (mkF m 210 #[vL u0, vS, vL u1, vS, vL u2, vS, vL u3, vS, vL u4, vS, vI u5, vI ln, vI stt, vI (stt + ln), vR a2, vR a9, vL ((own_le8 g2_7 (stt + ((2 : Int32) * (8 : Int32))) (ln % (8 : Int32))) ||| (ln.toInt64 <<< ((56 : Int32) &&& 0x3f).toInt64)), vS, vU, vU, vU, vU] []))
    refine own_aload X74 hx (hb hby at_210) rfl rfl (pc' := 212) rfl ?_
    refine own_iconst X74 hx (hb hby at_212) (z := (2 : Int32)) rfl (pc' := 213) rfl ?_
    refine own_dup2 X74 hx (hb hby at_213) rfl rfl (pc' := 214) rfl ?_
    refine own_laload X74 hx hZ rfl p74_0 (x := (own_comp ((own_le8 g2_7 (stt + ((2 : Int32) * (8 : Int32))) (ln % (8 : Int32))) ||| (ln.toInt64 <<< ((56 : Int32) &&& 0x3f).toInt64)) (own_comp (own_le8 g2_7 (stt + (8 : Int32)) (8 : Int32)) (own_comp (own_le8 g2_7 stt (8 : Int32)) ((u0 ^^^ (8317987319222330741 : Int64)), (u1 ^^^ (7237128888997146477 : Int64)), (u0 ^^^ (7816392313619706465 : Int64)), (u1 ^^^ (8387220255154660723 : Int64)))))).2.2.1) (by decide) rfl (hb hby at_214) (pc' := 215) rfl ?_
    refine own_ldc2 X74 hx hZ hown (ow_26 hw) (hb hby at_215) (pc' := 218) rfl ?_
    refine own_lxor X74 hx (hb hby at_218) (pc' := 219) rfl ?_
    refine own_lastore X74 hx hZ rfl (g' := (own_LJ [(own_comp ((own_le8 g2_7 (stt + ((2 : Int32) * (8 : Int32))) (ln % (8 : Int32))) ||| (ln.toInt64 <<< ((56 : Int32) &&& 0x3f).toInt64)) (own_comp (own_le8 g2_7 (stt + (8 : Int32)) (8 : Int32)) (own_comp (own_le8 g2_7 stt (8 : Int32)) ((u0 ^^^ (8317987319222330741 : Int64)), (u1 ^^^ (7237128888997146477 : Int64)), (u0 ^^^ (7816392313619706465 : Int64)), (u1 ^^^ (8387220255154660723 : Int64)))))).1, (own_comp ((own_le8 g2_7 (stt + ((2 : Int32) * (8 : Int32))) (ln % (8 : Int32))) ||| (ln.toInt64 <<< ((56 : Int32) &&& 0x3f).toInt64)) (own_comp (own_le8 g2_7 (stt + (8 : Int32)) (8 : Int32)) (own_comp (own_le8 g2_7 stt (8 : Int32)) ((u0 ^^^ (8317987319222330741 : Int64)), (u1 ^^^ (7237128888997146477 : Int64)), (u0 ^^^ (7816392313619706465 : Int64)), (u1 ^^^ (8387220255154660723 : Int64)))))).2.1, (((own_comp ((own_le8 g2_7 (stt + ((2 : Int32) * (8 : Int32))) (ln % (8 : Int32))) ||| (ln.toInt64 <<< ((56 : Int32) &&& 0x3f).toInt64)) (own_comp (own_le8 g2_7 (stt + (8 : Int32)) (8 : Int32)) (own_comp (own_le8 g2_7 stt (8 : Int32)) ((u0 ^^^ (8317987319222330741 : Int64)), (u1 ^^^ (7237128888997146477 : Int64)), (u0 ^^^ (7816392313619706465 : Int64)), (u1 ^^^ (8387220255154660723 : Int64)))))).2.2.1) ^^^ (255 : Int64)), (own_comp ((own_le8 g2_7 (stt + ((2 : Int32) * (8 : Int32))) (ln % (8 : Int32))) ||| (ln.toInt64 <<< ((56 : Int32) &&& 0x3f).toInt64)) (own_comp (own_le8 g2_7 (stt + (8 : Int32)) (8 : Int32)) (own_comp (own_le8 g2_7 stt (8 : Int32)) ((u0 ^^^ (8317987319222330741 : Int64)), (u1 ^^^ (7237128888997146477 : Int64)), (u0 ^^^ (7816392313619706465 : Int64)), (u1 ^^^ (8387220255154660723 : Int64)))))).2.2.2])) p74_0 (x' := (((own_comp ((own_le8 g2_7 (stt + ((2 : Int32) * (8 : Int32))) (ln % (8 : Int32))) ||| (ln.toInt64 <<< ((56 : Int32) &&& 0x3f).toInt64)) (own_comp (own_le8 g2_7 (stt + (8 : Int32)) (8 : Int32)) (own_comp (own_le8 g2_7 stt (8 : Int32)) ((u0 ^^^ (8317987319222330741 : Int64)), (u1 ^^^ (7237128888997146477 : Int64)), (u0 ^^^ (7816392313619706465 : Int64)), (u1 ^^^ (8387220255154660723 : Int64)))))).2.2.1) ^^^ (255 : Int64))) (by decide) rfl (fun i _ => own_LJ_set [(own_comp ((own_le8 g2_7 (stt + ((2 : Int32) * (8 : Int32))) (ln % (8 : Int32))) ||| (ln.toInt64 <<< ((56 : Int32) &&& 0x3f).toInt64)) (own_comp (own_le8 g2_7 (stt + (8 : Int32)) (8 : Int32)) (own_comp (own_le8 g2_7 stt (8 : Int32)) ((u0 ^^^ (8317987319222330741 : Int64)), (u1 ^^^ (7237128888997146477 : Int64)), (u0 ^^^ (7816392313619706465 : Int64)), (u1 ^^^ (8387220255154660723 : Int64)))))).1, (own_comp ((own_le8 g2_7 (stt + ((2 : Int32) * (8 : Int32))) (ln % (8 : Int32))) ||| (ln.toInt64 <<< ((56 : Int32) &&& 0x3f).toInt64)) (own_comp (own_le8 g2_7 (stt + (8 : Int32)) (8 : Int32)) (own_comp (own_le8 g2_7 stt (8 : Int32)) ((u0 ^^^ (8317987319222330741 : Int64)), (u1 ^^^ (7237128888997146477 : Int64)), (u0 ^^^ (7816392313619706465 : Int64)), (u1 ^^^ (8387220255154660723 : Int64)))))).2.1, (own_comp ((own_le8 g2_7 (stt + ((2 : Int32) * (8 : Int32))) (ln % (8 : Int32))) ||| (ln.toInt64 <<< ((56 : Int32) &&& 0x3f).toInt64)) (own_comp (own_le8 g2_7 (stt + (8 : Int32)) (8 : Int32)) (own_comp (own_le8 g2_7 stt (8 : Int32)) ((u0 ^^^ (8317987319222330741 : Int64)), (u1 ^^^ (7237128888997146477 : Int64)), (u0 ^^^ (7816392313619706465 : Int64)), (u1 ^^^ (8387220255154660723 : Int64)))))).2.2.1, (own_comp ((own_le8 g2_7 (stt + ((2 : Int32) * (8 : Int32))) (ln % (8 : Int32))) ||| (ln.toInt64 <<< ((56 : Int32) &&& 0x3f).toInt64)) (own_comp (own_le8 g2_7 (stt + (8 : Int32)) (8 : Int32)) (own_comp (own_le8 g2_7 stt (8 : Int32)) ((u0 ^^^ (8317987319222330741 : Int64)), (u1 ^^^ (7237128888997146477 : Int64)), (u0 ^^^ (7816392313619706465 : Int64)), (u1 ^^^ (8387220255154660723 : Int64)))))).2.2.2] 2 (((own_comp ((own_le8 g2_7 (stt + ((2 : Int32) * (8 : Int32))) (ln % (8 : Int32))) ||| (ln.toInt64 <<< ((56 : Int32) &&& 0x3f).toInt64)) (own_comp (own_le8 g2_7 (stt + (8 : Int32)) (8 : Int32)) (own_comp (own_le8 g2_7 stt (8 : Int32)) ((u0 ^^^ (8317987319222330741 : Int64)), (u1 ^^^ (7237128888997146477 : Int64)), (u0 ^^^ (7816392313619706465 : Int64)), (u1 ^^^ (8387220255154660723 : Int64)))))).2.2.1) ^^^ (255 : Int64)) (by simp) i) (hb hby at_219) (pc' := 220) rfl ?_
    intro T75 h75 X75 e75 W75 A75
    have N75 := Fr.snoc X75 N74 ge_a9
    refine own_aload X75 hx (hb hby at_220) rfl rfl (pc' := 222) rfl ?_
    have z77 : n0 ≤ h75.size := (Nat.le_trans (Nat.le_trans z73 K74.1) (Nat.le_of_eq (Wr.size W75).symm))
    refine own_callS X75 hx hZ hown (ow_20 hw) (ow_21 hw) (ow_7 hw) (ow_22 hw) (by decide) (rm_round l Z a0 hw a9 ((own_comp ((own_le8 g2_7 (stt + ((2 : Int32) * (8 : Int32))) (ln % (8 : Int32))) ||| (ln.toInt64 <<< ((56 : Int32) &&& 0x3f).toInt64)) (own_comp (own_le8 g2_7 (stt + (8 : Int32)) (8 : Int32)) (own_comp (own_le8 g2_7 stt (8 : Int32)) ((u0 ^^^ (8317987319222330741 : Int64)), (u1 ^^^ (7237128888997146477 : Int64)), (u0 ^^^ (7816392313619706465 : Int64)), (u1 ^^^ (8387220255154660723 : Int64)))))).1, (own_comp ((own_le8 g2_7 (stt + ((2 : Int32) * (8 : Int32))) (ln % (8 : Int32))) ||| (ln.toInt64 <<< ((56 : Int32) &&& 0x3f).toInt64)) (own_comp (own_le8 g2_7 (stt + (8 : Int32)) (8 : Int32)) (own_comp (own_le8 g2_7 stt (8 : Int32)) ((u0 ^^^ (8317987319222330741 : Int64)), (u1 ^^^ (7237128888997146477 : Int64)), (u0 ^^^ (7816392313619706465 : Int64)), (u1 ^^^ (8387220255154660723 : Int64)))))).2.1, (((own_comp ((own_le8 g2_7 (stt + ((2 : Int32) * (8 : Int32))) (ln % (8 : Int32))) ||| (ln.toInt64 <<< ((56 : Int32) &&& 0x3f).toInt64)) (own_comp (own_le8 g2_7 (stt + (8 : Int32)) (8 : Int32)) (own_comp (own_le8 g2_7 stt (8 : Int32)) ((u0 ^^^ (8317987319222330741 : Int64)), (u1 ^^^ (7237128888997146477 : Int64)), (u0 ^^^ (7816392313619706465 : Int64)), (u1 ^^^ (8387220255154660723 : Int64)))))).2.2.1) ^^^ (255 : Int64)), (own_comp ((own_le8 g2_7 (stt + ((2 : Int32) * (8 : Int32))) (ln % (8 : Int32))) ||| (ln.toInt64 <<< ((56 : Int32) &&& 0x3f).toInt64)) (own_comp (own_le8 g2_7 (stt + (8 : Int32)) (8 : Int32)) (own_comp (own_le8 g2_7 stt (8 : Int32)) ((u0 ^^^ (8317987319222330741 : Int64)), (u1 ^^^ (7237128888997146477 : Int64)), (u0 ^^^ (7816392313619706465 : Int64)), (u1 ^^^ (8387220255154660723 : Int64)))))).2.2.2) h75 n0 z77 A75 ge_a9) e75 (W := 0) (by decide) (by decide) opd___J_V rfl (rest := []) rfl (hb hby at_222) (Nat.le_of_eq rfl) (by rw [hml]; rfl) (by decide) (by decide) (pc' := 225) rfl ?_
    intro v76 T76 L76 X76 q76
    obtain ⟨rfl, Nq76, K76, p76_0⟩ := q76
    have N76 := Fr.app N75 Nq76
    show own_G p e below s _ _ _ (T76.setTop (mkF m 225 #[vL u0, vS, vL u1, vS, vL u2, vS, vL u3, vS, vL u4, vS, vI u5, vI ln, vI stt, vI (stt + ln), vR a2, vR a9, vL ((own_le8 g2_7 (stt + ((2 : Int32) * (8 : Int32))) (ln % (8 : Int32))) ||| (ln.toInt64 <<< ((56 : Int32) &&& 0x3f).toInt64)), vS, vU, vU, vU, vU] []))
    refine own_aload X76 hx (hb hby at_225) rfl rfl (pc' := 227) rfl ?_
    have z79 : n0 ≤ T76.heap.size := (Nat.le_trans z77 K76.1)
    refine own_callS X76 hx hZ hown (ow_20 hw) (ow_21 hw) (ow_7 hw) (ow_22 hw) (by decide) (rm_round l Z a0 hw a9 (own_round ((own_comp ((own_le8 g2_7 (stt + ((2 : Int32) * (8 : Int32))) (ln % (8 : Int32))) ||| (ln.toInt64 <<< ((56 : Int32) &&& 0x3f).toInt64)) (own_comp (own_le8 g2_7 (stt + (8 : Int32)) (8 : Int32)) (own_comp (own_le8 g2_7 stt (8 : Int32)) ((u0 ^^^ (8317987319222330741 : Int64)), (u1 ^^^ (7237128888997146477 : Int64)), (u0 ^^^ (7816392313619706465 : Int64)), (u1 ^^^ (8387220255154660723 : Int64)))))).1, (own_comp ((own_le8 g2_7 (stt + ((2 : Int32) * (8 : Int32))) (ln % (8 : Int32))) ||| (ln.toInt64 <<< ((56 : Int32) &&& 0x3f).toInt64)) (own_comp (own_le8 g2_7 (stt + (8 : Int32)) (8 : Int32)) (own_comp (own_le8 g2_7 stt (8 : Int32)) ((u0 ^^^ (8317987319222330741 : Int64)), (u1 ^^^ (7237128888997146477 : Int64)), (u0 ^^^ (7816392313619706465 : Int64)), (u1 ^^^ (8387220255154660723 : Int64)))))).2.1, (((own_comp ((own_le8 g2_7 (stt + ((2 : Int32) * (8 : Int32))) (ln % (8 : Int32))) ||| (ln.toInt64 <<< ((56 : Int32) &&& 0x3f).toInt64)) (own_comp (own_le8 g2_7 (stt + (8 : Int32)) (8 : Int32)) (own_comp (own_le8 g2_7 stt (8 : Int32)) ((u0 ^^^ (8317987319222330741 : Int64)), (u1 ^^^ (7237128888997146477 : Int64)), (u0 ^^^ (7816392313619706465 : Int64)), (u1 ^^^ (8387220255154660723 : Int64)))))).2.2.1) ^^^ (255 : Int64)), (own_comp ((own_le8 g2_7 (stt + ((2 : Int32) * (8 : Int32))) (ln % (8 : Int32))) ||| (ln.toInt64 <<< ((56 : Int32) &&& 0x3f).toInt64)) (own_comp (own_le8 g2_7 (stt + (8 : Int32)) (8 : Int32)) (own_comp (own_le8 g2_7 stt (8 : Int32)) ((u0 ^^^ (8317987319222330741 : Int64)), (u1 ^^^ (7237128888997146477 : Int64)), (u0 ^^^ (7816392313619706465 : Int64)), (u1 ^^^ (8387220255154660723 : Int64)))))).2.2.2)) T76.heap n0 z79 p76_0 ge_a9) rfl (W := 0) (by decide) (by decide) opd___J_V rfl (rest := []) rfl (hb hby at_227) (Nat.le_of_eq rfl) (by rw [hml]; rfl) (by decide) (by decide) (pc' := 230) rfl ?_
    intro v78 T78 L78 X78 q78
    obtain ⟨rfl, Nq78, K78, p78_0⟩ := q78
    have N78 := Fr.app N76 Nq78
    show own_G p e below s _ _ _ (T78.setTop (mkF m 230 #[vL u0, vS, vL u1, vS, vL u2, vS, vL u3, vS, vL u4, vS, vI u5, vI ln, vI stt, vI (stt + ln), vR a2, vR a9, vL ((own_le8 g2_7 (stt + ((2 : Int32) * (8 : Int32))) (ln % (8 : Int32))) ||| (ln.toInt64 <<< ((56 : Int32) &&& 0x3f).toInt64)), vS, vU, vU, vU, vU] []))
    refine own_aload X78 hx (hb hby at_230) rfl rfl (pc' := 232) rfl ?_
    have z81 : n0 ≤ T78.heap.size := (Nat.le_trans z79 K78.1)
    refine own_callS X78 hx hZ hown (ow_20 hw) (ow_21 hw) (ow_7 hw) (ow_22 hw) (by decide) (rm_round l Z a0 hw a9 (own_round (own_round ((own_comp ((own_le8 g2_7 (stt + ((2 : Int32) * (8 : Int32))) (ln % (8 : Int32))) ||| (ln.toInt64 <<< ((56 : Int32) &&& 0x3f).toInt64)) (own_comp (own_le8 g2_7 (stt + (8 : Int32)) (8 : Int32)) (own_comp (own_le8 g2_7 stt (8 : Int32)) ((u0 ^^^ (8317987319222330741 : Int64)), (u1 ^^^ (7237128888997146477 : Int64)), (u0 ^^^ (7816392313619706465 : Int64)), (u1 ^^^ (8387220255154660723 : Int64)))))).1, (own_comp ((own_le8 g2_7 (stt + ((2 : Int32) * (8 : Int32))) (ln % (8 : Int32))) ||| (ln.toInt64 <<< ((56 : Int32) &&& 0x3f).toInt64)) (own_comp (own_le8 g2_7 (stt + (8 : Int32)) (8 : Int32)) (own_comp (own_le8 g2_7 stt (8 : Int32)) ((u0 ^^^ (8317987319222330741 : Int64)), (u1 ^^^ (7237128888997146477 : Int64)), (u0 ^^^ (7816392313619706465 : Int64)), (u1 ^^^ (8387220255154660723 : Int64)))))).2.1, (((own_comp ((own_le8 g2_7 (stt + ((2 : Int32) * (8 : Int32))) (ln % (8 : Int32))) ||| (ln.toInt64 <<< ((56 : Int32) &&& 0x3f).toInt64)) (own_comp (own_le8 g2_7 (stt + (8 : Int32)) (8 : Int32)) (own_comp (own_le8 g2_7 stt (8 : Int32)) ((u0 ^^^ (8317987319222330741 : Int64)), (u1 ^^^ (7237128888997146477 : Int64)), (u0 ^^^ (7816392313619706465 : Int64)), (u1 ^^^ (8387220255154660723 : Int64)))))).2.2.1) ^^^ (255 : Int64)), (own_comp ((own_le8 g2_7 (stt + ((2 : Int32) * (8 : Int32))) (ln % (8 : Int32))) ||| (ln.toInt64 <<< ((56 : Int32) &&& 0x3f).toInt64)) (own_comp (own_le8 g2_7 (stt + (8 : Int32)) (8 : Int32)) (own_comp (own_le8 g2_7 stt (8 : Int32)) ((u0 ^^^ (8317987319222330741 : Int64)), (u1 ^^^ (7237128888997146477 : Int64)), (u0 ^^^ (7816392313619706465 : Int64)), (u1 ^^^ (8387220255154660723 : Int64)))))).2.2.2))) T78.heap n0 z81 p78_0 ge_a9) rfl (W := 0) (by decide) (by decide) opd___J_V rfl (rest := []) rfl (hb hby at_232) (Nat.le_of_eq rfl) (by rw [hml]; rfl) (by decide) (by decide) (pc' := 235) rfl ?_
    intro v80 T80 L80 X80 q80
    obtain ⟨rfl, Nq80, K80, p80_0⟩ := q80
    have N80 := Fr.app N78 Nq80
    show own_G p e below s _ _ _ (T80.setTop (mkF m 235 #[vL u0, vS, vL u1, vS, vL u2, vS, vL u3, vS, vL u4, vS, vI u5, vI ln, vI stt, vI (stt + ln), vR a2, vR a9, vL ((own_le8 g2_7 (stt + ((2 : Int32) * (8 : Int32))) (ln % (8 : Int32))) ||| (ln.toInt64 <<< ((56 : Int32) &&& 0x3f).toInt64)), vS, vU, vU, vU, vU] []))
    refine own_aload X80 hx (hb hby at_235) rfl rfl (pc' := 237) rfl ?_
    refine own_iconst X80 hx (hb hby at_237) (z := (0 : Int32)) rfl (pc' := 238) rfl ?_
    refine own_laload X80 hx hZ rfl p80_0 (x := (own_round (own_round (own_round ((own_comp ((own_le8 g2_7 (stt + ((2 : Int32) * (8 : Int32))) (ln % (8 : Int32))) ||| (ln.toInt64 <<< ((56 : Int32) &&& 0x3f).toInt64)) (own_comp (own_le8 g2_7 (stt + (8 : Int32)) (8 : Int32)) (own_comp (own_le8 g2_7 stt (8 : Int32)) ((u0 ^^^ (8317987319222330741 : Int64)), (u1 ^^^ (7237128888997146477 : Int64)), (u0 ^^^ (7816392313619706465 : Int64)), (u1 ^^^ (8387220255154660723 : Int64)))))).1, (own_comp ((own_le8 g2_7 (stt + ((2 : Int32) * (8 : Int32))) (ln % (8 : Int32))) ||| (ln.toInt64 <<< ((56 : Int32) &&& 0x3f).toInt64)) (own_comp (own_le8 g2_7 (stt + (8 : Int32)) (8 : Int32)) (own_comp (own_le8 g2_7 stt (8 : Int32)) ((u0 ^^^ (8317987319222330741 : Int64)), (u1 ^^^ (7237128888997146477 : Int64)), (u0 ^^^ (7816392313619706465 : Int64)), (u1 ^^^ (8387220255154660723 : Int64)))))).2.1, (((own_comp ((own_le8 g2_7 (stt + ((2 : Int32) * (8 : Int32))) (ln % (8 : Int32))) ||| (ln.toInt64 <<< ((56 : Int32) &&& 0x3f).toInt64)) (own_comp (own_le8 g2_7 (stt + (8 : Int32)) (8 : Int32)) (own_comp (own_le8 g2_7 stt (8 : Int32)) ((u0 ^^^ (8317987319222330741 : Int64)), (u1 ^^^ (7237128888997146477 : Int64)), (u0 ^^^ (7816392313619706465 : Int64)), (u1 ^^^ (8387220255154660723 : Int64)))))).2.2.1) ^^^ (255 : Int64)), (own_comp ((own_le8 g2_7 (stt + ((2 : Int32) * (8 : Int32))) (ln % (8 : Int32))) ||| (ln.toInt64 <<< ((56 : Int32) &&& 0x3f).toInt64)) (own_comp (own_le8 g2_7 (stt + (8 : Int32)) (8 : Int32)) (own_comp (own_le8 g2_7 stt (8 : Int32)) ((u0 ^^^ (8317987319222330741 : Int64)), (u1 ^^^ (7237128888997146477 : Int64)), (u0 ^^^ (7816392313619706465 : Int64)), (u1 ^^^ (8387220255154660723 : Int64)))))).2.2.2)))).1) (by decide) rfl (hb hby at_238) (pc' := 239) rfl ?_
    refine own_aload X80 hx (hb hby at_239) rfl rfl (pc' := 241) rfl ?_
    refine own_iconst X80 hx (hb hby at_241) (z := (1 : Int32)) rfl (pc' := 242) rfl ?_
    refine own_laload X80 hx hZ rfl p80_0 (x := (own_round (own_round (own_round ((own_comp ((own_le8 g2_7 (stt + ((2 : Int32) * (8 : Int32))) (ln % (8 : Int32))) ||| (ln.toInt64 <<< ((56 : Int32) &&& 0x3f).toInt64)) (own_comp (own_le8 g2_7 (stt + (8 : Int32)) (8 : Int32)) (own_comp (own_le8 g2_7 stt (8 : Int32)) ((u0 ^^^ (8317987319222330741 : Int64)), (u1 ^^^ (7237128888997146477 : Int64)), (u0 ^^^ (7816392313619706465 : Int64)), (u1 ^^^ (8387220255154660723 : Int64)))))).1, (own_comp ((own_le8 g2_7 (stt + ((2 : Int32) * (8 : Int32))) (ln % (8 : Int32))) ||| (ln.toInt64 <<< ((56 : Int32) &&& 0x3f).toInt64)) (own_comp (own_le8 g2_7 (stt + (8 : Int32)) (8 : Int32)) (own_comp (own_le8 g2_7 stt (8 : Int32)) ((u0 ^^^ (8317987319222330741 : Int64)), (u1 ^^^ (7237128888997146477 : Int64)), (u0 ^^^ (7816392313619706465 : Int64)), (u1 ^^^ (8387220255154660723 : Int64)))))).2.1, (((own_comp ((own_le8 g2_7 (stt + ((2 : Int32) * (8 : Int32))) (ln % (8 : Int32))) ||| (ln.toInt64 <<< ((56 : Int32) &&& 0x3f).toInt64)) (own_comp (own_le8 g2_7 (stt + (8 : Int32)) (8 : Int32)) (own_comp (own_le8 g2_7 stt (8 : Int32)) ((u0 ^^^ (8317987319222330741 : Int64)), (u1 ^^^ (7237128888997146477 : Int64)), (u0 ^^^ (7816392313619706465 : Int64)), (u1 ^^^ (8387220255154660723 : Int64)))))).2.2.1) ^^^ (255 : Int64)), (own_comp ((own_le8 g2_7 (stt + ((2 : Int32) * (8 : Int32))) (ln % (8 : Int32))) ||| (ln.toInt64 <<< ((56 : Int32) &&& 0x3f).toInt64)) (own_comp (own_le8 g2_7 (stt + (8 : Int32)) (8 : Int32)) (own_comp (own_le8 g2_7 stt (8 : Int32)) ((u0 ^^^ (8317987319222330741 : Int64)), (u1 ^^^ (7237128888997146477 : Int64)), (u0 ^^^ (7816392313619706465 : Int64)), (u1 ^^^ (8387220255154660723 : Int64)))))).2.2.2)))).2.1) (by decide) rfl (hb hby at_242) (pc' := 243) rfl ?_
    refine own_lxor X80 hx (hb hby at_243) (pc' := 244) rfl ?_
    refine own_aload X80 hx (hb hby at_244) rfl rfl (pc' := 246) rfl ?_
    refine own_iconst X80 hx (hb hby at_246) (z := (2 : Int32)) rfl (pc' := 247) rfl ?_
    refine own_laload X80 hx hZ rfl p80_0 (x := (own_round (own_round (own_round ((own_comp ((own_le8 g2_7 (stt + ((2 : Int32) * (8 : Int32))) (ln % (8 : Int32))) ||| (ln.toInt64 <<< ((56 : Int32) &&& 0x3f).toInt64)) (own_comp (own_le8 g2_7 (stt + (8 : Int32)) (8 : Int32)) (own_comp (own_le8 g2_7 stt (8 : Int32)) ((u0 ^^^ (8317987319222330741 : Int64)), (u1 ^^^ (7237128888997146477 : Int64)), (u0 ^^^ (7816392313619706465 : Int64)), (u1 ^^^ (8387220255154660723 : Int64)))))).1, (own_comp ((own_le8 g2_7 (stt + ((2 : Int32) * (8 : Int32))) (ln % (8 : Int32))) ||| (ln.toInt64 <<< ((56 : Int32) &&& 0x3f).toInt64)) (own_comp (own_le8 g2_7 (stt + (8 : Int32)) (8 : Int32)) (own_comp (own_le8 g2_7 stt (8 : Int32)) ((u0 ^^^ (8317987319222330741 : Int64)), (u1 ^^^ (7237128888997146477 : Int64)), (u0 ^^^ (7816392313619706465 : Int64)), (u1 ^^^ (8387220255154660723 : Int64)))))).2.1, (((own_comp ((own_le8 g2_7 (stt + ((2 : Int32) * (8 : Int32))) (ln % (8 : Int32))) ||| (ln.toInt64 <<< ((56 : Int32) &&& 0x3f).toInt64)) (own_comp (own_le8 g2_7 (stt + (8 : Int32)) (8 : Int32)) (own_comp (own_le8 g2_7 stt (8 : Int32)) ((u0 ^^^ (8317987319222330741 : Int64)), (u1 ^^^ (7237128888997146477 : Int64)), (u0 ^^^ (7816392313619706465 : Int64)), (u1 ^^^ (8387220255154660723 : Int64)))))).2.2.1) ^^^ (255 : Int64)), (own_comp ((own_le8 g2_7 (stt + ((2 : Int32) * (8 : Int32))) (ln % (8 : Int32))) ||| (ln.toInt64 <<< ((56 : Int32) &&& 0x3f).toInt64)) (own_comp (own_le8 g2_7 (stt + (8 : Int32)) (8 : Int32)) (own_comp (own_le8 g2_7 stt (8 : Int32)) ((u0 ^^^ (8317987319222330741 : Int64)), (u1 ^^^ (7237128888997146477 : Int64)), (u0 ^^^ (7816392313619706465 : Int64)), (u1 ^^^ (8387220255154660723 : Int64)))))).2.2.2)))).2.2.1) (by decide) rfl (hb hby at_247) (pc' := 248) rfl ?_
    refine own_lxor X80 hx (hb hby at_248) (pc' := 249) rfl ?_
    refine own_aload X80 hx (hb hby at_249) rfl rfl (pc' := 251) rfl ?_
    refine own_iconst X80 hx (hb hby at_251) (z := (3 : Int32)) rfl (pc' := 252) rfl ?_
    refine own_laload X80 hx hZ rfl p80_0 (x := (own_round (own_round (own_round ((own_comp ((own_le8 g2_7 (stt + ((2 : Int32) * (8 : Int32))) (ln % (8 : Int32))) ||| (ln.toInt64 <<< ((56 : Int32) &&& 0x3f).toInt64)) (own_comp (own_le8 g2_7 (stt + (8 : Int32)) (8 : Int32)) (own_comp (own_le8 g2_7 stt (8 : Int32)) ((u0 ^^^ (8317987319222330741 : Int64)), (u1 ^^^ (7237128888997146477 : Int64)), (u0 ^^^ (7816392313619706465 : Int64)), (u1 ^^^ (8387220255154660723 : Int64)))))).1, (own_comp ((own_le8 g2_7 (stt + ((2 : Int32) * (8 : Int32))) (ln % (8 : Int32))) ||| (ln.toInt64 <<< ((56 : Int32) &&& 0x3f).toInt64)) (own_comp (own_le8 g2_7 (stt + (8 : Int32)) (8 : Int32)) (own_comp (own_le8 g2_7 stt (8 : Int32)) ((u0 ^^^ (8317987319222330741 : Int64)), (u1 ^^^ (7237128888997146477 : Int64)), (u0 ^^^ (7816392313619706465 : Int64)), (u1 ^^^ (8387220255154660723 : Int64)))))).2.1, (((own_comp ((own_le8 g2_7 (stt + ((2 : Int32) * (8 : Int32))) (ln % (8 : Int32))) ||| (ln.toInt64 <<< ((56 : Int32) &&& 0x3f).toInt64)) (own_comp (own_le8 g2_7 (stt + (8 : Int32)) (8 : Int32)) (own_comp (own_le8 g2_7 stt (8 : Int32)) ((u0 ^^^ (8317987319222330741 : Int64)), (u1 ^^^ (7237128888997146477 : Int64)), (u0 ^^^ (7816392313619706465 : Int64)), (u1 ^^^ (8387220255154660723 : Int64)))))).2.2.1) ^^^ (255 : Int64)), (own_comp ((own_le8 g2_7 (stt + ((2 : Int32) * (8 : Int32))) (ln % (8 : Int32))) ||| (ln.toInt64 <<< ((56 : Int32) &&& 0x3f).toInt64)) (own_comp (own_le8 g2_7 (stt + (8 : Int32)) (8 : Int32)) (own_comp (own_le8 g2_7 stt (8 : Int32)) ((u0 ^^^ (8317987319222330741 : Int64)), (u1 ^^^ (7237128888997146477 : Int64)), (u0 ^^^ (7816392313619706465 : Int64)), (u1 ^^^ (8387220255154660723 : Int64)))))).2.2.2)))).2.2.2) (by decide) rfl (hb hby at_252) (pc' := 253) rfl ?_
    refine own_lxor X80 hx (hb hby at_253) (pc' := 254) rfl ?_
    refine own_lstore X80 hx (hb hby at_254) (l' := #[vL u0, vS, vL u1, vS, vL u2, vS, vL u3, vS, vL u4, vS, vI u5, vI ln, vI stt, vI (stt + ln), vR a2, vR a9, vL ((own_le8 g2_7 (stt + ((2 : Int32) * (8 : Int32))) (ln % (8 : Int32))) ||| (ln.toInt64 <<< ((56 : Int32) &&& 0x3f).toInt64)), vS, vL (((((own_round (own_round (own_round ((own_comp ((own_le8 g2_7 (stt + ((2 : Int32) * (8 : Int32))) (ln % (8 : Int32))) ||| (ln.toInt64 <<< ((56 : Int32) &&& 0x3f).toInt64)) (own_comp (own_le8 g2_7 (stt + (8 : Int32)) (8 : Int32)) (own_comp (own_le8 g2_7 stt (8 : Int32)) ((u0 ^^^ (8317987319222330741 : Int64)), (u1 ^^^ (7237128888997146477 : Int64)), (u0 ^^^ (7816392313619706465 : Int64)), (u1 ^^^ (8387220255154660723 : Int64)))))).1, (own_comp ((own_le8 g2_7 (stt + ((2 : Int32) * (8 : Int32))) (ln % (8 : Int32))) ||| (ln.toInt64 <<< ((56 : Int32) &&& 0x3f).toInt64)) (own_comp (own_le8 g2_7 (stt + (8 : Int32)) (8 : Int32)) (own_comp (own_le8 g2_7 stt (8 : Int32)) ((u0 ^^^ (8317987319222330741 : Int64)), (u1 ^^^ (7237128888997146477 : Int64)), (u0 ^^^ (7816392313619706465 : Int64)), (u1 ^^^ (8387220255154660723 : Int64)))))).2.1, (((own_comp ((own_le8 g2_7 (stt + ((2 : Int32) * (8 : Int32))) (ln % (8 : Int32))) ||| (ln.toInt64 <<< ((56 : Int32) &&& 0x3f).toInt64)) (own_comp (own_le8 g2_7 (stt + (8 : Int32)) (8 : Int32)) (own_comp (own_le8 g2_7 stt (8 : Int32)) ((u0 ^^^ (8317987319222330741 : Int64)), (u1 ^^^ (7237128888997146477 : Int64)), (u0 ^^^ (7816392313619706465 : Int64)), (u1 ^^^ (8387220255154660723 : Int64)))))).2.2.1) ^^^ (255 : Int64)), (own_comp ((own_le8 g2_7 (stt + ((2 : Int32) * (8 : Int32))) (ln % (8 : Int32))) ||| (ln.toInt64 <<< ((56 : Int32) &&& 0x3f).toInt64)) (own_comp (own_le8 g2_7 (stt + (8 : Int32)) (8 : Int32)) (own_comp (own_le8 g2_7 stt (8 : Int32)) ((u0 ^^^ (8317987319222330741 : Int64)), (u1 ^^^ (7237128888997146477 : Int64)), (u0 ^^^ (7816392313619706465 : Int64)), (u1 ^^^ (8387220255154660723 : Int64)))))).2.2.2)))).1) ^^^ ((own_round (own_round (own_round ((own_comp ((own_le8 g2_7 (stt + ((2 : Int32) * (8 : Int32))) (ln % (8 : Int32))) ||| (ln.toInt64 <<< ((56 : Int32) &&& 0x3f).toInt64)) (own_comp (own_le8 g2_7 (stt + (8 : Int32)) (8 : Int32)) (own_comp (own_le8 g2_7 stt (8 : Int32)) ((u0 ^^^ (8317987319222330741 : Int64)), (u1 ^^^ (7237128888997146477 : Int64)), (u0 ^^^ (7816392313619706465 : Int64)), (u1 ^^^ (8387220255154660723 : Int64)))))).1, (own_comp ((own_le8 g2_7 (stt + ((2 : Int32) * (8 : Int32))) (ln % (8 : Int32))) ||| (ln.toInt64 <<< ((56 : Int32) &&& 0x3f).toInt64)) (own_comp (own_le8 g2_7 (stt + (8 : Int32)) (8 : Int32)) (own_comp (own_le8 g2_7 stt (8 : Int32)) ((u0 ^^^ (8317987319222330741 : Int64)), (u1 ^^^ (7237128888997146477 : Int64)), (u0 ^^^ (7816392313619706465 : Int64)), (u1 ^^^ (8387220255154660723 : Int64)))))).2.1, (((own_comp ((own_le8 g2_7 (stt + ((2 : Int32) * (8 : Int32))) (ln % (8 : Int32))) ||| (ln.toInt64 <<< ((56 : Int32) &&& 0x3f).toInt64)) (own_comp (own_le8 g2_7 (stt + (8 : Int32)) (8 : Int32)) (own_comp (own_le8 g2_7 stt (8 : Int32)) ((u0 ^^^ (8317987319222330741 : Int64)), (u1 ^^^ (7237128888997146477 : Int64)), (u0 ^^^ (7816392313619706465 : Int64)), (u1 ^^^ (8387220255154660723 : Int64)))))).2.2.1) ^^^ (255 : Int64)), (own_comp ((own_le8 g2_7 (stt + ((2 : Int32) * (8 : Int32))) (ln % (8 : Int32))) ||| (ln.toInt64 <<< ((56 : Int32) &&& 0x3f).toInt64)) (own_comp (own_le8 g2_7 (stt + (8 : Int32)) (8 : Int32)) (own_comp (own_le8 g2_7 stt (8 : Int32)) ((u0 ^^^ (8317987319222330741 : Int64)), (u1 ^^^ (7237128888997146477 : Int64)), (u0 ^^^ (7816392313619706465 : Int64)), (u1 ^^^ (8387220255154660723 : Int64)))))).2.2.2)))).2.1)) ^^^ ((own_round (own_round (own_round ((own_comp ((own_le8 g2_7 (stt + ((2 : Int32) * (8 : Int32))) (ln % (8 : Int32))) ||| (ln.toInt64 <<< ((56 : Int32) &&& 0x3f).toInt64)) (own_comp (own_le8 g2_7 (stt + (8 : Int32)) (8 : Int32)) (own_comp (own_le8 g2_7 stt (8 : Int32)) ((u0 ^^^ (8317987319222330741 : Int64)), (u1 ^^^ (7237128888997146477 : Int64)), (u0 ^^^ (7816392313619706465 : Int64)), (u1 ^^^ (8387220255154660723 : Int64)))))).1, (own_comp ((own_le8 g2_7 (stt + ((2 : Int32) * (8 : Int32))) (ln % (8 : Int32))) ||| (ln.toInt64 <<< ((56 : Int32) &&& 0x3f).toInt64)) (own_comp (own_le8 g2_7 (stt + (8 : Int32)) (8 : Int32)) (own_comp (own_le8 g2_7 stt (8 : Int32)) ((u0 ^^^ (8317987319222330741 : Int64)), (u1 ^^^ (7237128888997146477 : Int64)), (u0 ^^^ (7816392313619706465 : Int64)), (u1 ^^^ (8387220255154660723 : Int64)))))).2.1, (((own_comp ((own_le8 g2_7 (stt + ((2 : Int32) * (8 : Int32))) (ln % (8 : Int32))) ||| (ln.toInt64 <<< ((56 : Int32) &&& 0x3f).toInt64)) (own_comp (own_le8 g2_7 (stt + (8 : Int32)) (8 : Int32)) (own_comp (own_le8 g2_7 stt (8 : Int32)) ((u0 ^^^ (8317987319222330741 : Int64)), (u1 ^^^ (7237128888997146477 : Int64)), (u0 ^^^ (7816392313619706465 : Int64)), (u1 ^^^ (8387220255154660723 : Int64)))))).2.2.1) ^^^ (255 : Int64)), (own_comp ((own_le8 g2_7 (stt + ((2 : Int32) * (8 : Int32))) (ln % (8 : Int32))) ||| (ln.toInt64 <<< ((56 : Int32) &&& 0x3f).toInt64)) (own_comp (own_le8 g2_7 (stt + (8 : Int32)) (8 : Int32)) (own_comp (own_le8 g2_7 stt (8 : Int32)) ((u0 ^^^ (8317987319222330741 : Int64)), (u1 ^^^ (7237128888997146477 : Int64)), (u0 ^^^ (7816392313619706465 : Int64)), (u1 ^^^ (8387220255154660723 : Int64)))))).2.2.2)))).2.2.1)) ^^^ ((own_round (own_round (own_round ((own_comp ((own_le8 g2_7 (stt + ((2 : Int32) * (8 : Int32))) (ln % (8 : Int32))) ||| (ln.toInt64 <<< ((56 : Int32) &&& 0x3f).toInt64)) (own_comp (own_le8 g2_7 (stt + (8 : Int32)) (8 : Int32)) (own_comp (own_le8 g2_7 stt (8 : Int32)) ((u0 ^^^ (8317987319222330741 : Int64)), (u1 ^^^ (7237128888997146477 : Int64)), (u0 ^^^ (7816392313619706465 : Int64)), (u1 ^^^ (8387220255154660723 : Int64)))))).1, (own_comp ((own_le8 g2_7 (stt + ((2 : Int32) * (8 : Int32))) (ln % (8 : Int32))) ||| (ln.toInt64 <<< ((56 : Int32) &&& 0x3f).toInt64)) (own_comp (own_le8 g2_7 (stt + (8 : Int32)) (8 : Int32)) (own_comp (own_le8 g2_7 stt (8 : Int32)) ((u0 ^^^ (8317987319222330741 : Int64)), (u1 ^^^ (7237128888997146477 : Int64)), (u0 ^^^ (7816392313619706465 : Int64)), (u1 ^^^ (8387220255154660723 : Int64)))))).2.1, (((own_comp ((own_le8 g2_7 (stt + ((2 : Int32) * (8 : Int32))) (ln % (8 : Int32))) ||| (ln.toInt64 <<< ((56 : Int32) &&& 0x3f).toInt64)) (own_comp (own_le8 g2_7 (stt + (8 : Int32)) (8 : Int32)) (own_comp (own_le8 g2_7 stt (8 : Int32)) ((u0 ^^^ (8317987319222330741 : Int64)), (u1 ^^^ (7237128888997146477 : Int64)), (u0 ^^^ (7816392313619706465 : Int64)), (u1 ^^^ (8387220255154660723 : Int64)))))).2.2.1) ^^^ (255 : Int64)), (own_comp ((own_le8 g2_7 (stt + ((2 : Int32) * (8 : Int32))) (ln % (8 : Int32))) ||| (ln.toInt64 <<< ((56 : Int32) &&& 0x3f).toInt64)) (own_comp (own_le8 g2_7 (stt + (8 : Int32)) (8 : Int32)) (own_comp (own_le8 g2_7 stt (8 : Int32)) ((u0 ^^^ (8317987319222330741 : Int64)), (u1 ^^^ (7237128888997146477 : Int64)), (u0 ^^^ (7816392313619706465 : Int64)), (u1 ^^^ (8387220255154660723 : Int64)))))).2.2.2)))).2.2.2)), vS, vU, vU]) rfl (pc' := 256) rfl ?_
    have z83 : n0 ≤ T80.heap.size := (Nat.le_trans z81 K80.1)
    have f84 : own_AI Z T80.heap a2 .byte (24 : Int32) g2_7 := (((((f72.keep K74 (ninS (Nat.ne_of_lt lt_a2_a9) nin0)).other W75 (Nat.ne_of_lt lt_a2_a9)).keep K76 (ninS (Nat.ne_of_lt lt_a2_a9) nin0)).keep K78 (ninS (Nat.ne_of_lt lt_a2_a9) nin0)).keep K80 (ninS (Nat.ne_of_lt lt_a2_a9) nin0))
    refine own_new X80 hx hZ hown (ow_27 hw) (ow_28 hw) (ow_29 hw) rfl (hb hby at_256) (pc' := 259) rfl (by decide) (by decide) ?_
    intro T82 h82 a82 g82 X82 e82 E82 A82 D82
    have lt_a2_a82 : a2 < a82 := by rw [g82]; exact f84.lt
    have lt_a9_a82 : a9 < a82 := by rw [g82]; exact p80_0.lt
    have ge_a82 : n0 ≤ a82 := by rw [g82]; exact z83
    have F82_key0 : Fld Z h82 a82 "com/example/structlane/structlane/header/SipHash" "key0" "J" (.long (0 : Int64)) := D82 (Or.inr (ow_37 hw)) (ty := .long) (by decide)
    have F82_key1 : Fld Z h82 a82 "com/example/structlane/structlane/header/SipHash" "key1" "J" (.long (0 : Int64)) := D82 (Or.inr (ow_39 hw)) (ty := .long) (by decide)
    refine own_dup X82 hx (hb hby at_259) rfl (pc' := 260) rfl ?_
    refine own_lloadN X82 hx (hb hby at_260) rfl (pc' := 261) rfl ?_
    refine own_lloadN X82 hx (hb hby at_261) rfl (pc' := 262) rfl ?_
    have z86 : n0 ≤ h82.size := (Nat.le_trans z83 E82.1)
    refine own_callC X82 hx hZ rfl hown (ow_30 hw) (ow_31 hw) (ow_29 hw) (ow_32 hw) (by decide) (rm_init l Z a0 hw a82 u0 u1 (.long (0 : Int64)) (.long (0 : Int64)) h82 n0 z86 A82 F82_key0 F82_key1 ge_a82) e82 (W := 1) (by decide) (by decide) opd__JJ_V rfl (rest := [(.ref a82)]) rfl (hb hby at_262) (Nat.le_of_eq rfl) (by rw [hml]; rfl) (by decide) (by decide) (pc' := 265) rfl ?_
    intro v85 T85 L85 X85 q85
    obtain ⟨rfl, Nq85, K85, p85_0, p85_1⟩ := q85
    have N85 := Fr.app N80 Nq85
    show own_G p e below s _ _ _ (T85.setTop (mkF m 265 #[vL u0, vS, vL u1, vS, vL u2, vS, vL u3, vS, vL u4, vS, vI u5, vI ln, vI stt, vI (stt + ln), vR a2, vR a9, vL ((own_le8 g2_7 (stt + ((2 : Int32) * (8 : Int32))) (ln % (8 : Int32))) ||| (ln.toInt64 <<< ((56 : Int32) &&& 0x3f).toInt64)), vS, vL (((((own_round (own_round (own_round ((own_comp ((own_le8 g2_7 (stt + ((2 : Int32) * (8 : Int32))) (ln % (8 : Int32))) ||| (ln.toInt64 <<< ((56 : Int32) &&& 0x3f).toInt64)) (own_comp (own_le8 g2_7 (stt + (8 : Int32)) (8 : Int32)) (own_comp (own_le8 g2_7 stt (8 : Int32)) ((u0 ^^^ (8317987319222330741 : Int64)), (u1 ^^^ (7237128888997146477 : Int64)), (u0 ^^^ (7816392313619706465 : Int64)), (u1 ^^^ (8387220255154660723 : Int64)))))).1, (own_comp ((own_le8 g2_7 (stt + ((2 : Int32) * (8 : Int32))) (ln % (8 : Int32))) ||| (ln.toInt64 <<< ((56 : Int32) &&& 0x3f).toInt64)) (own_comp (own_le8 g2_7 (stt + (8 : Int32)) (8 : Int32)) (own_comp (own_le8 g2_7 stt (8 : Int32)) ((u0 ^^^ (8317987319222330741 : Int64)), (u1 ^^^ (7237128888997146477 : Int64)), (u0 ^^^ (7816392313619706465 : Int64)), (u1 ^^^ (8387220255154660723 : Int64)))))).2.1, (((own_comp ((own_le8 g2_7 (stt + ((2 : Int32) * (8 : Int32))) (ln % (8 : Int32))) ||| (ln.toInt64 <<< ((56 : Int32) &&& 0x3f).toInt64)) (own_comp (own_le8 g2_7 (stt + (8 : Int32)) (8 : Int32)) (own_comp (own_le8 g2_7 stt (8 : Int32)) ((u0 ^^^ (8317987319222330741 : Int64)), (u1 ^^^ (7237128888997146477 : Int64)), (u0 ^^^ (7816392313619706465 : Int64)), (u1 ^^^ (8387220255154660723 : Int64)))))).2.2.1) ^^^ (255 : Int64)), (own_comp ((own_le8 g2_7 (stt + ((2 : Int32) * (8 : Int32))) (ln % (8 : Int32))) ||| (ln.toInt64 <<< ((56 : Int32) &&& 0x3f).toInt64)) (own_comp (own_le8 g2_7 (stt + (8 : Int32)) (8 : Int32)) (own_comp (own_le8 g2_7 stt (8 : Int32)) ((u0 ^^^ (8317987319222330741 : Int64)), (u1 ^^^ (7237128888997146477 : Int64)), (u0 ^^^ (7816392313619706465 : Int64)), (u1 ^^^ (8387220255154660723 : Int64)))))).2.2.2)))).1) ^^^ ((own_round (own_round (own_round ((own_comp ((own_le8 g2_7 (stt + ((2 : Int32) * (8 : Int32))) (ln % (8 : Int32))) ||| (ln.toInt64 <<< ((56 : Int32) &&& 0x3f).toInt64)) (own_comp (own_le8 g2_7 (stt + (8 : Int32)) (8 : Int32)) (own_comp (own_le8 g2_7 stt (8 : Int32)) ((u0 ^^^ (8317987319222330741 : Int64)), (u1 ^^^ (7237128888997146477 : Int64)), (u0 ^^^ (7816392313619706465 : Int64)), (u1 ^^^ (8387220255154660723 : Int64)))))).1, (own_comp ((own_le8 g2_7 (stt + ((2 : Int32) * (8 : Int32))) (ln % (8 : Int32))) ||| (ln.toInt64 <<< ((56 : Int32) &&& 0x3f).toInt64)) (own_comp (own_le8 g2_7 (stt + (8 : Int32)) (8 : Int32)) (own_comp (own_le8 g2_7 stt (8 : Int32)) ((u0 ^^^ (8317987319222330741 : Int64)), (u1 ^^^ (7237128888997146477 : Int64)), (u0 ^^^ (7816392313619706465 : Int64)), (u1 ^^^ (8387220255154660723 : Int64)))))).2.1, (((own_comp ((own_le8 g2_7 (stt + ((2 : Int32) * (8 : Int32))) (ln % (8 : Int32))) ||| (ln.toInt64 <<< ((56 : Int32) &&& 0x3f).toInt64)) (own_comp (own_le8 g2_7 (stt + (8 : Int32)) (8 : Int32)) (own_comp (own_le8 g2_7 stt (8 : Int32)) ((u0 ^^^ (8317987319222330741 : Int64)), (u1 ^^^ (7237128888997146477 : Int64)), (u0 ^^^ (7816392313619706465 : Int64)), (u1 ^^^ (8387220255154660723 : Int64)))))).2.2.1) ^^^ (255 : Int64)), (own_comp ((own_le8 g2_7 (stt + ((2 : Int32) * (8 : Int32))) (ln % (8 : Int32))) ||| (ln.toInt64 <<< ((56 : Int32) &&& 0x3f).toInt64)) (own_comp (own_le8 g2_7 (stt + (8 : Int32)) (8 : Int32)) (own_comp (own_le8 g2_7 stt (8 : Int32)) ((u0 ^^^ (8317987319222330741 : Int64)), (u1 ^^^ (7237128888997146477 : Int64)), (u0 ^^^ (7816392313619706465 : Int64)), (u1 ^^^ (8387220255154660723 : Int64)))))).2.2.2)))).2.1)) ^^^ ((own_round (own_round (own_round ((own_comp ((own_le8 g2_7 (stt + ((2 : Int32) * (8 : Int32))) (ln % (8 : Int32))) ||| (ln.toInt64 <<< ((56 : Int32) &&& 0x3f).toInt64)) (own_comp (own_le8 g2_7 (stt + (8 : Int32)) (8 : Int32)) (own_comp (own_le8 g2_7 stt (8 : Int32)) ((u0 ^^^ (8317987319222330741 : Int64)), (u1 ^^^ (7237128888997146477 : Int64)), (u0 ^^^ (7816392313619706465 : Int64)), (u1 ^^^ (8387220255154660723 : Int64)))))).1, (own_comp ((own_le8 g2_7 (stt + ((2 : Int32) * (8 : Int32))) (ln % (8 : Int32))) ||| (ln.toInt64 <<< ((56 : Int32) &&& 0x3f).toInt64)) (own_comp (own_le8 g2_7 (stt + (8 : Int32)) (8 : Int32)) (own_comp (own_le8 g2_7 stt (8 : Int32)) ((u0 ^^^ (8317987319222330741 : Int64)), (u1 ^^^ (7237128888997146477 : Int64)), (u0 ^^^ (7816392313619706465 : Int64)), (u1 ^^^ (8387220255154660723 : Int64)))))).2.1, (((own_comp ((own_le8 g2_7 (stt + ((2 : Int32) * (8 : Int32))) (ln % (8 : Int32))) ||| (ln.toInt64 <<< ((56 : Int32) &&& 0x3f).toInt64)) (own_comp (own_le8 g2_7 (stt + (8 : Int32)) (8 : Int32)) (own_comp (own_le8 g2_7 stt (8 : Int32)) ((u0 ^^^ (8317987319222330741 : Int64)), (u1 ^^^ (7237128888997146477 : Int64)), (u0 ^^^ (7816392313619706465 : Int64)), (u1 ^^^ (8387220255154660723 : Int64)))))).2.2.1) ^^^ (255 : Int64)), (own_comp ((own_le8 g2_7 (stt + ((2 : Int32) * (8 : Int32))) (ln % (8 : Int32))) ||| (ln.toInt64 <<< ((56 : Int32) &&& 0x3f).toInt64)) (own_comp (own_le8 g2_7 (stt + (8 : Int32)) (8 : Int32)) (own_comp (own_le8 g2_7 stt (8 : Int32)) ((u0 ^^^ (8317987319222330741 : Int64)), (u1 ^^^ (7237128888997146477 : Int64)), (u0 ^^^ (7816392313619706465 : Int64)), (u1 ^^^ (8387220255154660723 : Int64)))))).2.2.2)))).2.2.1)) ^^^ ((own_round (own_round (own_round ((own_comp ((own_le8 g2_7 (stt + ((2 : Int32) * (8 : Int32))) (ln % (8 : Int32))) ||| (ln.toInt64 <<< ((56 : Int32) &&& 0x3f).toInt64)) (own_comp (own_le8 g2_7 (stt + (8 : Int32)) (8 : Int32)) (own_comp (own_le8 g2_7 stt (8 : Int32)) ((u0 ^^^ (8317987319222330741 : Int64)), (u1 ^^^ (7237128888997146477 : Int64)), (u0 ^^^ (7816392313619706465 : Int64)), (u1 ^^^ (8387220255154660723 : Int64)))))).1, (own_comp ((own_le8 g2_7 (stt + ((2 : Int32) * (8 : Int32))) (ln % (8 : Int32))) ||| (ln.toInt64 <<< ((56 : Int32) &&& 0x3f).toInt64)) (own_comp (own_le8 g2_7 (stt + (8 : Int32)) (8 : Int32)) (own_comp (own_le8 g2_7 stt (8 : Int32)) ((u0 ^^^ (8317987319222330741 : Int64)), (u1 ^^^ (7237128888997146477 : Int64)), (u0 ^^^ (7816392313619706465 : Int64)), (u1 ^^^ (8387220255154660723 : Int64)))))).2.1, (((own_comp ((own_le8 g2_7 (stt + ((2 : Int32) * (8 : Int32))) (ln % (8 : Int32))) ||| (ln.toInt64 <<< ((56 : Int32) &&& 0x3f).toInt64)) (own_comp (own_le8 g2_7 (stt + (8 : Int32)) (8 : Int32)) (own_comp (own_le8 g2_7 stt (8 : Int32)) ((u0 ^^^ (8317987319222330741 : Int64)), (u1 ^^^ (7237128888997146477 : Int64)), (u0 ^^^ (7816392313619706465 : Int64)), (u1 ^^^ (8387220255154660723 : Int64)))))).2.2.1) ^^^ (255 : Int64)), (own_comp ((own_le8 g2_7 (stt + ((2 : Int32) * (8 : Int32))) (ln % (8 : Int32))) ||| (ln.toInt64 <<< ((56 : Int32) &&& 0x3f).toInt64)) (own_comp (own_le8 g2_7 (stt + (8 : Int32)) (8 : Int32)) (own_comp (own_le8 g2_7 stt (8 : Int32)) ((u0 ^^^ (8317987319222330741 : Int64)), (u1 ^^^ (7237128888997146477 : Int64)), (u0 ^^^ (7816392313619706465 : Int64)), (u1 ^^^ (8387220255154660723 : Int64)))))).2.2.2)))).2.2.2)), vS, vU, vU] [(.ref a82)]))
    refine own_aload X85 hx (hb hby at_265) rfl rfl (pc' := 267) rfl ?_
    refine own_iload X85 hx (hb hby at_267) rfl (pc' := 269) rfl ?_
    refine own_iload X85 hx (hb hby at_269) rfl (pc' := 271) rfl ?_
    have f88 : own_AI Z T85.heap a2 .byte (24 : Int32) g2_7 := ((f84.ext E82).keep K85 (ninS (Nat.ne_of_lt lt_a2_a82) nin0))
    have z89 : n0 ≤ T85.heap.size := (Nat.le_trans z86 K85.1)
    have f90 : Exa Z T85.heap a82 "com/example/structlane/structlane/header/SipHash" := (A82.keep K85)
    refine own_callV X85 hx hZ hown (ow_40 hw) (ow_41 hw) (ow_43 hw) (ow_42 hw) (ow_29 hw) (ow_44 hw) (by decide) f90 (rm_hash2 l Z a0 hw a82 a2 stt (stt + ln) u0 u1 g2_7 T85.heap n0 z89 p85_0 p85_1 f88 hS.1 (by have q := own_addk stt ln (by omega) (by omega); omega) (by rw [own_canc]; exact c17)) rfl (W := 0) (by decide) (by decide) opd___BII_J rfl (rest := []) rfl (hb hby at_271) (Nat.le_of_eq rfl) (by rw [hml]; rfl) (by decide) (by decide) (pc' := 274) rfl ?_
    intro v87 T87 L87 X87 q87
    obtain ⟨rfl, Nq87, eh87⟩ := q87
    have N87 := Fr.app N85 Nq87
    show own_G p e below s _ _ _ (T87.setTop (mkF m 274 #[vL u0, vS, vL u1, vS, vL u2, vS, vL u3, vS, vL u4, vS, vI u5, vI ln, vI stt, vI (stt + ln), vR a2, vR a9, vL ((own_le8 g2_7 (stt + ((2 : Int32) * (8 : Int32))) (ln % (8 : Int32))) ||| (ln.toInt64 <<< ((56 : Int32) &&& 0x3f).toInt64)), vS, vL (((((own_round (own_round (own_round ((own_comp ((own_le8 g2_7 (stt + ((2 : Int32) * (8 : Int32))) (ln % (8 : Int32))) ||| (ln.toInt64 <<< ((56 : Int32) &&& 0x3f).toInt64)) (own_comp (own_le8 g2_7 (stt + (8 : Int32)) (8 : Int32)) (own_comp (own_le8 g2_7 stt (8 : Int32)) ((u0 ^^^ (8317987319222330741 : Int64)), (u1 ^^^ (7237128888997146477 : Int64)), (u0 ^^^ (7816392313619706465 : Int64)), (u1 ^^^ (8387220255154660723 : Int64)))))).1, (own_comp ((own_le8 g2_7 (stt + ((2 : Int32) * (8 : Int32))) (ln % (8 : Int32))) ||| (ln.toInt64 <<< ((56 : Int32) &&& 0x3f).toInt64)) (own_comp (own_le8 g2_7 (stt + (8 : Int32)) (8 : Int32)) (own_comp (own_le8 g2_7 stt (8 : Int32)) ((u0 ^^^ (8317987319222330741 : Int64)), (u1 ^^^ (7237128888997146477 : Int64)), (u0 ^^^ (7816392313619706465 : Int64)), (u1 ^^^ (8387220255154660723 : Int64)))))).2.1, (((own_comp ((own_le8 g2_7 (stt + ((2 : Int32) * (8 : Int32))) (ln % (8 : Int32))) ||| (ln.toInt64 <<< ((56 : Int32) &&& 0x3f).toInt64)) (own_comp (own_le8 g2_7 (stt + (8 : Int32)) (8 : Int32)) (own_comp (own_le8 g2_7 stt (8 : Int32)) ((u0 ^^^ (8317987319222330741 : Int64)), (u1 ^^^ (7237128888997146477 : Int64)), (u0 ^^^ (7816392313619706465 : Int64)), (u1 ^^^ (8387220255154660723 : Int64)))))).2.2.1) ^^^ (255 : Int64)), (own_comp ((own_le8 g2_7 (stt + ((2 : Int32) * (8 : Int32))) (ln % (8 : Int32))) ||| (ln.toInt64 <<< ((56 : Int32) &&& 0x3f).toInt64)) (own_comp (own_le8 g2_7 (stt + (8 : Int32)) (8 : Int32)) (own_comp (own_le8 g2_7 stt (8 : Int32)) ((u0 ^^^ (8317987319222330741 : Int64)), (u1 ^^^ (7237128888997146477 : Int64)), (u0 ^^^ (7816392313619706465 : Int64)), (u1 ^^^ (8387220255154660723 : Int64)))))).2.2.2)))).1) ^^^ ((own_round (own_round (own_round ((own_comp ((own_le8 g2_7 (stt + ((2 : Int32) * (8 : Int32))) (ln % (8 : Int32))) ||| (ln.toInt64 <<< ((56 : Int32) &&& 0x3f).toInt64)) (own_comp (own_le8 g2_7 (stt + (8 : Int32)) (8 : Int32)) (own_comp (own_le8 g2_7 stt (8 : Int32)) ((u0 ^^^ (8317987319222330741 : Int64)), (u1 ^^^ (7237128888997146477 : Int64)), (u0 ^^^ (7816392313619706465 : Int64)), (u1 ^^^ (8387220255154660723 : Int64)))))).1, (own_comp ((own_le8 g2_7 (stt + ((2 : Int32) * (8 : Int32))) (ln % (8 : Int32))) ||| (ln.toInt64 <<< ((56 : Int32) &&& 0x3f).toInt64)) (own_comp (own_le8 g2_7 (stt + (8 : Int32)) (8 : Int32)) (own_comp (own_le8 g2_7 stt (8 : Int32)) ((u0 ^^^ (8317987319222330741 : Int64)), (u1 ^^^ (7237128888997146477 : Int64)), (u0 ^^^ (7816392313619706465 : Int64)), (u1 ^^^ (8387220255154660723 : Int64)))))).2.1, (((own_comp ((own_le8 g2_7 (stt + ((2 : Int32) * (8 : Int32))) (ln % (8 : Int32))) ||| (ln.toInt64 <<< ((56 : Int32) &&& 0x3f).toInt64)) (own_comp (own_le8 g2_7 (stt + (8 : Int32)) (8 : Int32)) (own_comp (own_le8 g2_7 stt (8 : Int32)) ((u0 ^^^ (8317987319222330741 : Int64)), (u1 ^^^ (7237128888997146477 : Int64)), (u0 ^^^ (7816392313619706465 : Int64)), (u1 ^^^ (8387220255154660723 : Int64)))))).2.2.1) ^^^ (255 : Int64)), (own_comp ((own_le8 g2_7 (stt + ((2 : Int32) * (8 : Int32))) (ln % (8 : Int32))) ||| (ln.toInt64 <<< ((56 : Int32) &&& 0x3f).toInt64)) (own_comp (own_le8 g2_7 (stt + (8 : Int32)) (8 : Int32)) (own_comp (own_le8 g2_7 stt (8 : Int32)) ((u0 ^^^ (8317987319222330741 : Int64)), (u1 ^^^ (7237128888997146477 : Int64)), (u0 ^^^ (7816392313619706465 : Int64)), (u1 ^^^ (8387220255154660723 : Int64)))))).2.2.2)))).2.1)) ^^^ ((own_round (own_round (own_round ((own_comp ((own_le8 g2_7 (stt + ((2 : Int32) * (8 : Int32))) (ln % (8 : Int32))) ||| (ln.toInt64 <<< ((56 : Int32) &&& 0x3f).toInt64)) (own_comp (own_le8 g2_7 (stt + (8 : Int32)) (8 : Int32)) (own_comp (own_le8 g2_7 stt (8 : Int32)) ((u0 ^^^ (8317987319222330741 : Int64)), (u1 ^^^ (7237128888997146477 : Int64)), (u0 ^^^ (7816392313619706465 : Int64)), (u1 ^^^ (8387220255154660723 : Int64)))))).1, (own_comp ((own_le8 g2_7 (stt + ((2 : Int32) * (8 : Int32))) (ln % (8 : Int32))) ||| (ln.toInt64 <<< ((56 : Int32) &&& 0x3f).toInt64)) (own_comp (own_le8 g2_7 (stt + (8 : Int32)) (8 : Int32)) (own_comp (own_le8 g2_7 stt (8 : Int32)) ((u0 ^^^ (8317987319222330741 : Int64)), (u1 ^^^ (7237128888997146477 : Int64)), (u0 ^^^ (7816392313619706465 : Int64)), (u1 ^^^ (8387220255154660723 : Int64)))))).2.1, (((own_comp ((own_le8 g2_7 (stt + ((2 : Int32) * (8 : Int32))) (ln % (8 : Int32))) ||| (ln.toInt64 <<< ((56 : Int32) &&& 0x3f).toInt64)) (own_comp (own_le8 g2_7 (stt + (8 : Int32)) (8 : Int32)) (own_comp (own_le8 g2_7 stt (8 : Int32)) ((u0 ^^^ (8317987319222330741 : Int64)), (u1 ^^^ (7237128888997146477 : Int64)), (u0 ^^^ (7816392313619706465 : Int64)), (u1 ^^^ (8387220255154660723 : Int64)))))).2.2.1) ^^^ (255 : Int64)), (own_comp ((own_le8 g2_7 (stt + ((2 : Int32) * (8 : Int32))) (ln % (8 : Int32))) ||| (ln.toInt64 <<< ((56 : Int32) &&& 0x3f).toInt64)) (own_comp (own_le8 g2_7 (stt + (8 : Int32)) (8 : Int32)) (own_comp (own_le8 g2_7 stt (8 : Int32)) ((u0 ^^^ (8317987319222330741 : Int64)), (u1 ^^^ (7237128888997146477 : Int64)), (u0 ^^^ (7816392313619706465 : Int64)), (u1 ^^^ (8387220255154660723 : Int64)))))).2.2.2)))).2.2.1)) ^^^ ((own_round (own_round (own_round ((own_comp ((own_le8 g2_7 (stt + ((2 : Int32) * (8 : Int32))) (ln % (8 : Int32))) ||| (ln.toInt64 <<< ((56 : Int32) &&& 0x3f).toInt64)) (own_comp (own_le8 g2_7 (stt + (8 : Int32)) (8 : Int32)) (own_comp (own_le8 g2_7 stt (8 : Int32)) ((u0 ^^^ (8317987319222330741 : Int64)), (u1 ^^^ (7237128888997146477 : Int64)), (u0 ^^^ (7816392313619706465 : Int64)), (u1 ^^^ (8387220255154660723 : Int64)))))).1, (own_comp ((own_le8 g2_7 (stt + ((2 : Int32) * (8 : Int32))) (ln % (8 : Int32))) ||| (ln.toInt64 <<< ((56 : Int32) &&& 0x3f).toInt64)) (own_comp (own_le8 g2_7 (stt + (8 : Int32)) (8 : Int32)) (own_comp (own_le8 g2_7 stt (8 : Int32)) ((u0 ^^^ (8317987319222330741 : Int64)), (u1 ^^^ (7237128888997146477 : Int64)), (u0 ^^^ (7816392313619706465 : Int64)), (u1 ^^^ (8387220255154660723 : Int64)))))).2.1, (((own_comp ((own_le8 g2_7 (stt + ((2 : Int32) * (8 : Int32))) (ln % (8 : Int32))) ||| (ln.toInt64 <<< ((56 : Int32) &&& 0x3f).toInt64)) (own_comp (own_le8 g2_7 (stt + (8 : Int32)) (8 : Int32)) (own_comp (own_le8 g2_7 stt (8 : Int32)) ((u0 ^^^ (8317987319222330741 : Int64)), (u1 ^^^ (7237128888997146477 : Int64)), (u0 ^^^ (7816392313619706465 : Int64)), (u1 ^^^ (8387220255154660723 : Int64)))))).2.2.1) ^^^ (255 : Int64)), (own_comp ((own_le8 g2_7 (stt + ((2 : Int32) * (8 : Int32))) (ln % (8 : Int32))) ||| (ln.toInt64 <<< ((56 : Int32) &&& 0x3f).toInt64)) (own_comp (own_le8 g2_7 (stt + (8 : Int32)) (8 : Int32)) (own_comp (own_le8 g2_7 stt (8 : Int32)) ((u0 ^^^ (8317987319222330741 : Int64)), (u1 ^^^ (7237128888997146477 : Int64)), (u0 ^^^ (7816392313619706465 : Int64)), (u1 ^^^ (8387220255154660723 : Int64)))))).2.2.2)))).2.2.2)), vS, vU, vU] [(.long (own_x4 (own_comp (0 : Int64) (own_comp (0 : Int64) (own_comp (0 : Int64) (own_ff (own_comp ((own_le8 g2_7 (stt + ((2 : Int32) * (8 : Int32))) ((stt + ln) - (stt + ((2 : Int32) * (8 : Int32))))) ||| (((stt + ln) - stt).toInt64 <<< ((56 : Int32) &&& 0x3f).toInt64)) (own_comp (own_le8 g2_7 (stt + ((1 : Int32) * (8 : Int32))) (8 : Int32)) (own_comp (own_le8 g2_7 (stt + ((0 : Int32) * (8 : Int32))) (8 : Int32)) ((u0 ^^^ (8317987319222330741 : Int64)), (u1 ^^^ (7237128888997146477 : Int64)), (u0 ^^^ (7816392313619706465 : Int64)), (u1 ^^^ (8387220255154660723 : Int64))))))))))))]))
    refine own_lstore X87 hx (hb hby at_274) (l' := #[vL u0, vS, vL u1, vS, vL u2, vS, vL u3, vS, vL u4, vS, vI u5, vI ln, vI stt, vI (stt + ln), vR a2, vR a9, vL ((own_le8 g2_7 (stt + ((2 : Int32) * (8 : Int32))) (ln % (8 : Int32))) ||| (ln.toInt64 <<< ((56 : Int32) &&& 0x3f).toInt64)), vS, vL (((((own_round (own_round (own_round ((own_comp ((own_le8 g2_7 (stt + ((2 : Int32) * (8 : Int32))) (ln % (8 : Int32))) ||| (ln.toInt64 <<< ((56 : Int32) &&& 0x3f).toInt64)) (own_comp (own_le8 g2_7 (stt + (8 : Int32)) (8 : Int32)) (own_comp (own_le8 g2_7 stt (8 : Int32)) ((u0 ^^^ (8317987319222330741 : Int64)), (u1 ^^^ (7237128888997146477 : Int64)), (u0 ^^^ (7816392313619706465 : Int64)), (u1 ^^^ (8387220255154660723 : Int64)))))).1, (own_comp ((own_le8 g2_7 (stt + ((2 : Int32) * (8 : Int32))) (ln % (8 : Int32))) ||| (ln.toInt64 <<< ((56 : Int32) &&& 0x3f).toInt64)) (own_comp (own_le8 g2_7 (stt + (8 : Int32)) (8 : Int32)) (own_comp (own_le8 g2_7 stt (8 : Int32)) ((u0 ^^^ (8317987319222330741 : Int64)), (u1 ^^^ (7237128888997146477 : Int64)), (u0 ^^^ (7816392313619706465 : Int64)), (u1 ^^^ (8387220255154660723 : Int64)))))).2.1, (((own_comp ((own_le8 g2_7 (stt + ((2 : Int32) * (8 : Int32))) (ln % (8 : Int32))) ||| (ln.toInt64 <<< ((56 : Int32) &&& 0x3f).toInt64)) (own_comp (own_le8 g2_7 (stt + (8 : Int32)) (8 : Int32)) (own_comp (own_le8 g2_7 stt (8 : Int32)) ((u0 ^^^ (8317987319222330741 : Int64)), (u1 ^^^ (7237128888997146477 : Int64)), (u0 ^^^ (7816392313619706465 : Int64)), (u1 ^^^ (8387220255154660723 : Int64)))))).2.2.1) ^^^ (255 : Int64)), (own_comp ((own_le8 g2_7 (stt + ((2 : Int32) * (8 : Int32))) (ln % (8 : Int32))) ||| (ln.toInt64 <<< ((56 : Int32) &&& 0x3f).toInt64)) (own_comp (own_le8 g2_7 (stt + (8 : Int32)) (8 : Int32)) (own_comp (own_le8 g2_7 stt (8 : Int32)) ((u0 ^^^ (8317987319222330741 : Int64)), (u1 ^^^ (7237128888997146477 : Int64)), (u0 ^^^ (7816392313619706465 : Int64)), (u1 ^^^ (8387220255154660723 : Int64)))))).2.2.2)))).1) ^^^ ((own_round (own_round (own_round ((own_comp ((own_le8 g2_7 (stt + ((2 : Int32) * (8 : Int32))) (ln % (8 : Int32))) ||| (ln.toInt64 <<< ((56 : Int32) &&& 0x3f).toInt64)) (own_comp (own_le8 g2_7 (stt + (8 : Int32)) (8 : Int32)) (own_comp (own_le8 g2_7 stt (8 : Int32)) ((u0 ^^^ (8317987319222330741 : Int64)), (u1 ^^^ (7237128888997146477 : Int64)), (u0 ^^^ (7816392313619706465 : Int64)), (u1 ^^^ (8387220255154660723 : Int64)))))).1, (own_comp ((own_le8 g2_7 (stt + ((2 : Int32) * (8 : Int32))) (ln % (8 : Int32))) ||| (ln.toInt64 <<< ((56 : Int32) &&& 0x3f).toInt64)) (own_comp (own_le8 g2_7 (stt + (8 : Int32)) (8 : Int32)) (own_comp (own_le8 g2_7 stt (8 : Int32)) ((u0 ^^^ (8317987319222330741 : Int64)), (u1 ^^^ (7237128888997146477 : Int64)), (u0 ^^^ (7816392313619706465 : Int64)), (u1 ^^^ (8387220255154660723 : Int64)))))).2.1, (((own_comp ((own_le8 g2_7 (stt + ((2 : Int32) * (8 : Int32))) (ln % (8 : Int32))) ||| (ln.toInt64 <<< ((56 : Int32) &&& 0x3f).toInt64)) (own_comp (own_le8 g2_7 (stt + (8 : Int32)) (8 : Int32)) (own_comp (own_le8 g2_7 stt (8 : Int32)) ((u0 ^^^ (8317987319222330741 : Int64)), (u1 ^^^ (7237128888997146477 : Int64)), (u0 ^^^ (7816392313619706465 : Int64)), (u1 ^^^ (8387220255154660723 : Int64)))))).2.2.1) ^^^ (255 : Int64)), (own_comp ((own_le8 g2_7 (stt + ((2 : Int32) * (8 : Int32))) (ln % (8 : Int32))) ||| (ln.toInt64 <<< ((56 : Int32) &&& 0x3f).toInt64)) (own_comp (own_le8 g2_7 (stt + (8 : Int32)) (8 : Int32)) (own_comp (own_le8 g2_7 stt (8 : Int32)) ((u0 ^^^ (8317987319222330741 : Int64)), (u1 ^^^ (7237128888997146477 : Int64)), (u0 ^^^ (7816392313619706465 : Int64)), (u1 ^^^ (8387220255154660723 : Int64)))))).2.2.2)))).2.1)) ^^^ ((own_round (own_round (own_round ((own_comp ((own_le8 g2_7 (stt + ((2 : Int32) * (8 : Int32))) (ln % (8 : Int32))) ||| (ln.toInt64 <<< ((56 : Int32) &&& 0x3f).toInt64)) (own_comp (own_le8 g2_7 (stt + (8 : Int32)) (8 : Int32)) (own_comp (own_le8 g2_7 stt (8 : Int32)) ((u0 ^^^ (8317987319222330741 : Int64)), (u1 ^^^ (7237128888997146477 : Int64)), (u0 ^^^ (7816392313619706465 : Int64)), (u1 ^^^ (8387220255154660723 : Int64)))))).1, (own_comp ((own_le8 g2_7 (stt + ((2 : Int32) * (8 : Int32))) (ln % (8 : Int32))) ||| (ln.toInt64 <<< ((56 : Int32) &&& 0x3f).toInt64)) (own_comp (own_le8 g2_7 (stt + (8 : Int32)) (8 : Int32)) (own_comp (own_le8 g2_7 stt (8 : Int32)) ((u0 ^^^ (8317987319222330741 : Int64)), (u1 ^^^ (7237128888997146477 : Int64)), (u0 ^^^ (7816392313619706465 : Int64)), (u1 ^^^ (8387220255154660723 : Int64)))))).2.1, (((own_comp ((own_le8 g2_7 (stt + ((2 : Int32) * (8 : Int32))) (ln % (8 : Int32))) ||| (ln.toInt64 <<< ((56 : Int32) &&& 0x3f).toInt64)) (own_comp (own_le8 g2_7 (stt + (8 : Int32)) (8 : Int32)) (own_comp (own_le8 g2_7 stt (8 : Int32)) ((u0 ^^^ (8317987319222330741 : Int64)), (u1 ^^^ (7237128888997146477 : Int64)), (u0 ^^^ (7816392313619706465 : Int64)), (u1 ^^^ (8387220255154660723 : Int64)))))).2.2.1) ^^^ (255 : Int64)), (own_comp ((own_le8 g2_7 (stt + ((2 : Int32) * (8 : Int32))) (ln % (8 : Int32))) ||| (ln.toInt64 <<< ((56 : Int32) &&& 0x3f).toInt64)) (own_comp (own_le8 g2_7 (stt + (8 : Int32)) (8 : Int32)) (own_comp (own_le8 g2_7 stt (8 : Int32)) ((u0 ^^^ (8317987319222330741 : Int64)), (u1 ^^^ (7237128888997146477 : Int64)), (u0 ^^^ (7816392313619706465 : Int64)), (u1 ^^^ (8387220255154660723 : Int64)))))).2.2.2)))).2.2.1)) ^^^ ((own_round (own_round (own_round ((own_comp ((own_le8 g2_7 (stt + ((2 : Int32) * (8 : Int32))) (ln % (8 : Int32))) ||| (ln.toInt64 <<< ((56 : Int32) &&& 0x3f).toInt64)) (own_comp (own_le8 g2_7 (stt + (8 : Int32)) (8 : Int32)) (own_comp (own_le8 g2_7 stt (8 : Int32)) ((u0 ^^^ (8317987319222330741 : Int64)), (u1 ^^^ (7237128888997146477 : Int64)), (u0 ^^^ (7816392313619706465 : Int64)), (u1 ^^^ (8387220255154660723 : Int64)))))).1, (own_comp ((own_le8 g2_7 (stt + ((2 : Int32) * (8 : Int32))) (ln % (8 : Int32))) ||| (ln.toInt64 <<< ((56 : Int32) &&& 0x3f).toInt64)) (own_comp (own_le8 g2_7 (stt + (8 : Int32)) (8 : Int32)) (own_comp (own_le8 g2_7 stt (8 : Int32)) ((u0 ^^^ (8317987319222330741 : Int64)), (u1 ^^^ (7237128888997146477 : Int64)), (u0 ^^^ (7816392313619706465 : Int64)), (u1 ^^^ (8387220255154660723 : Int64)))))).2.1, (((own_comp ((own_le8 g2_7 (stt + ((2 : Int32) * (8 : Int32))) (ln % (8 : Int32))) ||| (ln.toInt64 <<< ((56 : Int32) &&& 0x3f).toInt64)) (own_comp (own_le8 g2_7 (stt + (8 : Int32)) (8 : Int32)) (own_comp (own_le8 g2_7 stt (8 : Int32)) ((u0 ^^^ (8317987319222330741 : Int64)), (u1 ^^^ (7237128888997146477 : Int64)), (u0 ^^^ (7816392313619706465 : Int64)), (u1 ^^^ (8387220255154660723 : Int64)))))).2.2.1) ^^^ (255 : Int64)), (own_comp ((own_le8 g2_7 (stt + ((2 : Int32) * (8 : Int32))) (ln % (8 : Int32))) ||| (ln.toInt64 <<< ((56 : Int32) &&& 0x3f).toInt64)) (own_comp (own_le8 g2_7 (stt + (8 : Int32)) (8 : Int32)) (own_comp (own_le8 g2_7 stt (8 : Int32)) ((u0 ^^^ (8317987319222330741 : Int64)), (u1 ^^^ (7237128888997146477 : Int64)), (u0 ^^^ (7816392313619706465 : Int64)), (u1 ^^^ (8387220255154660723 : Int64)))))).2.2.2)))).2.2.2)), vS, vL (own_x4 (own_comp (0 : Int64) (own_comp (0 : Int64) (own_comp (0 : Int64) (own_ff (own_comp ((own_le8 g2_7 (stt + ((2 : Int32) * (8 : Int32))) ((stt + ln) - (stt + ((2 : Int32) * (8 : Int32))))) ||| (((stt + ln) - stt).toInt64 <<< ((56 : Int32) &&& 0x3f).toInt64)) (own_comp (own_le8 g2_7 (stt + ((1 : Int32) * (8 : Int32))) (8 : Int32)) (own_comp (own_le8 g2_7 (stt + ((0 : Int32) * (8 : Int32))) (8 : Int32)) ((u0 ^^^ (8317987319222330741 : Int64)), (u1 ^^^ (7237128888997146477 : Int64)), (u0 ^^^ (7816392313619706465 : Int64)), (u1 ^^^ (8387220255154660723 : Int64))))))))))), vS]) rfl (pc' := 276) rfl ?_
    refine own_lload X87 hx (hb hby at_276) rfl (pc' := 278) rfl ?_
    refine own_lload X87 hx (hb hby at_278) rfl (pc' := 280) rfl ?_
    refine own_lcmp X87 hx (hb hby at_280) (pc' := 281) rfl ?_
    refine own_ifF X87 hx (hb hby at_281) (own_eqL (by rw [own_end, own_canc, (show (stt + ((0 : Int32) * (8 : Int32))) = stt from own_z stt), (show (stt + ((1 : Int32) * (8 : Int32))) = (stt + (8 : Int32)) from congrArg (stt + ·) (by decide)), own_rem stt ln (2 : Int32) hS hL.1 (by decide) (by simp only [Int32.reduceToInt]; omega)]; rfl)).2 (pc' := 284) rfl ?_
    refine own_iconst X87 hx (hb hby at_284) (z := (1 : Int32)) rfl (pc' := 285) rfl ?_
    refine own_goto X87 hx (hb hby at_285) (by decide) (pc' := 289) rfl ?_
    exact own_retZ X87 hx hret hlk (Or.inr rfl) (hb hby at_289) ⟨rfl, N87⟩ (by decide) (by decide)
  · have hB := own_blk hL.1 c18
    simp only [Int32.reduceToInt] at hB
    refine own_iload X14 hx (hb hby at_104) rfl (pc' := 106) rfl ?_
    refine own_bipush X14 hx (hb hby at_106) (z := (8 : Int32)) (by decide) (pc' := 108) rfl ?_
    refine own_icmpF X14 hx (hb hby at_108) (flt (by simp only [Int32.lt_iff_toInt_lt, Int32.reduceToInt]; omega)).1 (pc' := 111) rfl ?_
    refine own_aload X14 hx (hb hby at_111) rfl rfl (pc' := 113) rfl ?_
    refine own_aload X14 hx (hb hby at_113) rfl rfl (pc' := 115) rfl ?_
    refine own_iload X14 hx (hb hby at_115) rfl (pc' := 117) rfl ?_
    refine own_bipush X14 hx (hb hby at_117) (z := (8 : Int32)) (by decide) (pc' := 119) rfl ?_
    have f92 : own_AI Z h14 a2 .byte (24 : Int32) g2_7 := (((((p7_0.ext E9).other W11 (Nat.ne_of_lt lt_a2_a9)).other W12 (Nat.ne_of_lt lt_a2_a9)).other W13 (Nat.ne_of_lt lt_a2_a9)).other W14 (Nat.ne_of_lt lt_a2_a9))
    have z93 : n0 ≤ h14.size := (Nat.le_trans (Nat.le_trans (Nat.le_trans (Nat.le_trans (Nat.le_trans z10 E9.1) (Nat.le_of_eq (Wr.size W11).symm)) (Nat.le_of_eq (Wr.size W12).symm)) (Nat.le_of_eq (Wr.size W13).symm)) (Nat.le_of_eq (Wr.size W14).symm))
    refine own_callS X14 hx hZ hown (ow_14 hw) (ow_15 hw) (ow_7 hw) (ow_16 hw) (by decide) (rm_le8 l Z a0 hw a2 stt (8 : Int32) g2_7 h14 n0 z93 f92 hS.1 (by simp only [Int32.reduceToInt]; omega)) e14 (W := 1) (by decide) (by decide) opd___BII_J rfl (rest := [(.ref a9)]) rfl (hb hby at_119) (Nat.le_of_eq rfl) (by rw [hml]; rfl) (by decide) (by decide) (pc' := 122) rfl ?_
    intro v91 T91 L91 X91 q91
    obtain ⟨rfl, Nq91, eh91⟩ := q91
    have N91 := Fr.app N14 Nq91
    show own_G p e below s _ _ _ (T91.setTop (mkF m 122 #[vL u0, vS, vL u1, vS, vL u2, vS, vL u3, vS, vL u4, vS, vI u5, vI ln, vI stt, vI (stt + ln), vR a2, vR a9, vU, vU, vU, vU, vU, vU] [(.long (own_le8 g2_7 stt (8 : Int32))), (.ref a9)]))
    refine own_callS X91 hx hZ hown (ow_17 hw) (ow_18 hw) (ow_7 hw) (ow_19 hw) (by decide) (rm_comp l Z a0 hw a9 (own_le8 g2_7 stt (8 : Int32)) ((u0 ^^^ (8317987319222330741 : Int64)), (u1 ^^^ (7237128888997146477 : Int64)), (u0 ^^^ (7816392313619706465 : Int64)), (u1 ^^^ (8387220255154660723 : Int64))) h14 n0 z93 A14 ge_a9) eh91 (W := 0) (by decide) (by decide) opd___JJ_V rfl (rest := []) rfl (hb hby at_122) (Nat.le_of_eq rfl) (by rw [hml]; rfl) (by decide) (by decide) (pc' := 125) rfl ?_
    intro v94 T94 L94 X94 q94
    obtain ⟨rfl, Nq94, K94, p94_0⟩ := q94
    have N94 := Fr.app N91 Nq94
    show own_G p e below s _ _ _ (T94.setTop (mkF m 125 #[vL u0, vS, vL u1, vS, vL u2, vS, vL u3, vS, vL u4, vS, vI u5, vI ln, vI stt, vI (stt + ln), vR a2, vR a9, vU, vU, vU, vU, vU, vU] []))
    refine own_iload X94 hx (hb hby at_125) rfl (pc' := 127) rfl ?_
    refine own_bipush X94 hx (hb hby at_127) (z := (16 : Int32)) (by decide) (pc' := 129) rfl ?_
    refine own_icmpF X94 hx (hb hby at_129) (flt (by simp only [Int32.lt_iff_toInt_lt, Int32.reduceToInt]; omega)).1 (pc' := 132) rfl ?_
    refine own_aload X94 hx (hb hby at_132) rfl rfl (pc' := 134) rfl ?_
    refine own_aload X94 hx (hb hby at_134) rfl rfl (pc' := 136) rfl ?_
    refine own_iload X94 hx (hb hby at_136) rfl (pc' := 138) rfl ?_
    refine own_bipush X94 hx (hb hby at_138) (z := (8 : Int32)) (by decide) (pc' := 140) rfl ?_
    refine own_iadd X94 hx (hb hby at_140) (pc' := 141) rfl ?_
    refine own_bipush X94 hx (hb hby at_141) (z := (8 : Int32)) (by decide) (pc' := 143) rfl ?_
    have f96 : own_AI Z T94.heap a2 .byte (24 : Int32) g2_7 := (f92.keep K94 (ninS (Nat.ne_of_lt lt_a2_a9) nin0))
    have z97 : n0 ≤ T94.heap.size := (Nat.le_trans z93 K94.1)
    refine own_callS X94 hx hZ hown (ow_14 hw) (ow_15 hw) (ow_7 hw) (ow_16 hw) (by decide) (rm_le8 l Z a0 hw a2 (stt + (8 : Int32)) (8 : Int32) g2_7 T94.heap n0 z97 f96 (by have q := own_addk stt (8 : Int32) (by omega) (by decide); simp only [Int32.reduceToInt] at q ⊢; omega) (by have q := own_addk stt (8 : Int32) (by omega) (by decide); simp only [Int32.reduceToInt] at q ⊢; omega)) rfl (W := 1) (by decide) (by decide) opd___BII_J rfl (rest := [(.ref a9)]) rfl (hb hby at_143) (Nat.le_of_eq rfl) (by rw [hml]; rfl) (by decide) (by decide) (pc' := 146) rfl ?_
    intro v95 T95 L95 X95 q95
    obtain ⟨rfl, Nq95, eh95⟩ := q95
    have N95 := Fr.app N94 Nq95
    show own_G p e below s _ _ _ (T95.setTop (mkF m 146 #[vL u0, vS, vL u1, vS, vL u2, vS, vL u3, vS, vL u4, vS, vI u5, vI ln, vI stt, vI (stt + ln), vR a2, vR a9, vU, vU, vU, vU, vU, vU] [(.long (own_le8 g2_7 (stt + (8 : Int32)) (8 : Int32))), (.ref a9)]))
    refine own_callS X95 hx hZ hown (ow_17 hw) (ow_18 hw) (ow_7 hw) (ow_19 hw) (by decide) (rm_comp l Z a0 hw a9 (own_le8 g2_7 (stt + (8 : Int32)) (8 : Int32)) (own_comp (own_le8 g2_7 stt (8 : Int32)) ((u0 ^^^ (8317987319222330741 : Int64)), (u1 ^^^ (7237128888997146477 : Int64)), (u0 ^^^ (7816392313619706465 : Int64)), (u1 ^^^ (8387220255154660723 : Int64)))) T94.heap n0 z97 p94_0 ge_a9) eh95 (W := 0) (by decide) (by decide) opd___JJ_V rfl (rest := []) rfl (hb hby at_146) (Nat.le_of_eq rfl) (by rw [hml]; rfl) (by decide) (by decide) (pc' := 149) rfl ?_
    intro v98 T98 L98 X98 q98
    obtain ⟨rfl, Nq98, K98, p98_0⟩ := q98
    have N98 := Fr.app N95 Nq98
    show own_G p e below s _ _ _ (T98.setTop (mkF m 149 #[vL u0, vS, vL u1, vS, vL u2, vS, vL u3, vS, vL u4, vS, vI u5, vI ln, vI stt, vI (stt + ln), vR a2, vR a9, vU, vU, vU, vU, vU, vU] []))
    refine own_iload X98 hx (hb hby at_149) rfl (pc' := 151) rfl ?_
    refine own_bipush X98 hx (hb hby at_151) (z := (24 : Int32)) (by decide) (pc' := 153) rfl ?_
    refine own_icmpF X98 hx (hb hby at_153) (flt (by simp only [Int32.lt_iff_toInt_lt, Int32.reduceToInt]; omega)).1 (pc' := 156) rfl ?_
    refine own_aload X98 hx (hb hby at_156) rfl rfl (pc' := 158) rfl ?_
    refine own_aload X98 hx (hb hby at_158) rfl rfl (pc' := 160) rfl ?_
    refine own_iload X98 hx (hb hby at_160) rfl (pc' := 162) rfl ?_
    refine own_bipush X98 hx (hb hby at_162) (z := (16 : Int32)) (by decide) (pc' := 164) rfl ?_
    refine own_iadd X98 hx (hb hby at_164) (pc' := 165) rfl ?_
    refine own_bipush X98 hx (hb hby at_165) (z := (8 : Int32)) (by decide) (pc' := 167) rfl ?_
    have f100 : own_AI Z T98.heap a2 .byte (24 : Int32) g2_7 := (f96.keep K98 (ninS (Nat.ne_of_lt lt_a2_a9) nin0))
    have z101 : n0 ≤ T98.heap.size := (Nat.le_trans z97 K98.1)
    refine own_callS X98 hx hZ hown (ow_14 hw) (ow_15 hw) (ow_7 hw) (ow_16 hw) (by decide) (rm_le8 l Z a0 hw a2 (stt + (16 : Int32)) (8 : Int32) g2_7 T98.heap n0 z101 f100 (by have q := own_addk stt (16 : Int32) (by omega) (by decide); simp only [Int32.reduceToInt] at q ⊢; omega) (by have q := own_addk stt (16 : Int32) (by omega) (by decide); simp only [Int32.reduceToInt] at q ⊢; omega)) rfl (W := 1) (by decide) (by decide) opd___BII_J rfl (rest := [(.ref a9)]) rfl (hb hby at_167) (Nat.le_of_eq rfl) (by rw [hml]; rfl) (by decide) (by decide) (pc' := 170) rfl ?_
    intro v99 T99 L99 X99 q99
    obtain ⟨rfl, Nq99, eh99⟩ := q99
    have N99 := Fr.app N98 Nq99
    show own_G p e below s _ _ _ (T99.setTop (mkF m 170 #[vL u0, vS, vL u1, vS, vL u2, vS, vL u3, vS, vL u4, vS, vI u5, vI ln, vI stt, vI (stt + ln), vR a2, vR a9, vU, vU, vU, vU, vU, vU] [(.long (own_le8 g2_7 (stt + (16 : Int32)) (8 : Int32))), (.ref a9)]))
    refine own_callS X99 hx hZ hown (ow_17 hw) (ow_18 hw) (ow_7 hw) (ow_19 hw) (by decide) (rm_comp l Z a0 hw a9 (own_le8 g2_7 (stt + (16 : Int32)) (8 : Int32)) (own_comp (own_le8 g2_7 (stt + (8 : Int32)) (8 : Int32)) (own_comp (own_le8 g2_7 stt (8 : Int32)) ((u0 ^^^ (8317987319222330741 : Int64)), (u1 ^^^ (7237128888997146477 : Int64)), (u0 ^^^ (7816392313619706465 : Int64)), (u1 ^^^ (8387220255154660723 : Int64))))) T98.heap n0 z101 p98_0 ge_a9) eh99 (W := 0) (by decide) (by decide) opd___JJ_V rfl (rest := []) rfl (hb hby at_170) (Nat.le_of_eq rfl) (by rw [hml]; rfl) (by decide) (by decide) (pc' := 173) rfl ?_
    intro v102 T102 L102 X102 q102
    obtain ⟨rfl, Nq102, K102, p102_0⟩ := q102
    have N102 := Fr.app N99 Nq102
    show own_G p e below s _ _ _ (T102.setTop (mkF m 173 #[vL u0, vS, vL u1, vS, vL u2, vS, vL u3, vS, vL u4, vS, vI u5, vI ln, vI stt, vI (stt + ln), vR a2, vR a9, vU, vU, vU, vU, vU, vU] []))
    refine own_aload X102 hx (hb hby at_173) rfl rfl (pc' := 175) rfl ?_
    refine own_iload X102 hx (hb hby at_175) rfl (pc' := 177) rfl ?_
    refine own_iload X102 hx (hb hby at_177) rfl (pc' := 179) rfl ?_
    refine own_bipush X102 hx (hb hby at_179) (z := (8 : Int32)) (by decide) (pc' := 181) rfl ?_
    refine own_idiv X102 hx (hb hby at_181) (by decide) (pc' := 182) rfl ?_
    rw [c18]
    refine own_bipush X102 hx (hb hby at_182) (z := (8 : Int32)) (by decide) (pc' := 184) rfl ?_
    refine own_imul X102 hx (hb hby at_184) (pc' := 185) rfl ?_
    refine own_iadd X102 hx (hb hby at_185) (pc' := 186) rfl ?_
    refine own_iload X102 hx (hb hby at_186) rfl (pc' := 188) rfl ?_
    refine own_bipush X102 hx (hb hby at_188) (z := (8 : Int32)) (by decide) (pc' := 190) rfl ?_
    refine own_irem X102 hx (hb hby at_190) (by decide) (pc' := 191) rfl ?_
    have f104 : own_AI Z T102.heap a2 .byte (24 : Int32) g2_7 := (f100.keep K102 (ninS (Nat.ne_of_lt lt_a2_a9) nin0))
    have z105 : n0 ≤ T102.heap.size := (Nat.le_trans z101 K102.1)
    refine own_callS X102 hx hZ hown (ow_14 hw) (ow_15 hw) (ow_7 hw) (ow_16 hw) (by decide) (rm_le8 l Z a0 hw a2 (stt + ((3 : Int32) * (8 : Int32))) (ln % (8 : Int32)) g2_7 T102.heap n0 z105 f104 (by have q := own_offk stt (3 : Int32) (by omega) (by decide); have q2 := (c_irem ln 8 8 rfl).1 hL.1; simp only [Int32.reduceToInt] at q; omega) (by have q := own_offk stt (3 : Int32) (by omega) (by decide); have q2 := (c_irem ln 8 8 rfl).1 hL.1; simp only [Int32.reduceToInt] at q; omega)) rfl (W := 0) (by decide) (by decide) opd___BII_J rfl (rest := []) rfl (hb hby at_191) (Nat.le_of_eq rfl) (by rw [hml]; rfl) (by decide) (by decide) (pc' := 194) rfl ?_
    intro v103 T103 L103 X103 q103
    obtain ⟨rfl, Nq103, eh103⟩ := q103
    have N103 := Fr.app N102 Nq103
    show own_G p e below s _ _ _ (T103.setTop (mkF m 194 #[vL u0, vS, vL u1, vS, vL u2, vS, vL u3, vS, vL u4, vS, vI u5, vI ln, vI stt, vI (stt + ln), vR a2, vR a9, vU, vU, vU, vU, vU, vU] [(.long (own_le8 g2_7 (stt + ((3 : Int32) * (8 : Int32))) (ln % (8 : Int32))))]))
    refine own_iload X103 hx (hb hby at_194) rfl (pc' := 196) rfl ?_
    refine own_i2l X103 hx (hb hby at_196) (pc' := 197) rfl ?_
    refine own_bipush X103 hx (hb hby at_197) (z := (56 : Int32)) (by decide) (pc' := 199) rfl ?_
    refine own_lshl X103 hx (hb hby at_199) (pc' := 200) rfl ?_
    refine own_lor X103 hx (hb hby at_200) (pc' := 201) rfl ?_
    refine own_lstore X103 hx (hb hby at_201) (l' := #[vL u0, vS, vL u1, vS, vL u2, vS, vL u3, vS, vL u4, vS, vI u5, vI ln, vI stt, vI (stt + ln), vR a2, vR a9, vL ((own_le8 g2_7 (stt + ((3 : Int32) * (8 : Int32))) (ln % (8 : Int32))) ||| (ln.toInt64 <<< ((56 : Int32) &&& 0x3f).toInt64)), vS, vU, vU, vU, vU]) rfl (pc' := 203) rfl ?_
    refine own_aload X103 hx (hb hby at_203) rfl rfl (pc' := 205) rfl ?_
    refine own_lload X103 hx (hb hby at_205) rfl (pc' := 207) rfl ?_
    refine own_callS X103 hx hZ hown (ow_17 hw) (ow_18 hw) (ow_7 hw) (ow_19 hw) (by decide) (rm_comp l Z a0 hw a9 ((own_le8 g2_7 (stt + ((3 : Int32) * (8 : Int32))) (ln % (8 : Int32))) ||| (ln.toInt64 <<< ((56 : Int32) &&& 0x3f).toInt64)) (own_comp (own_le8 g2_7 (stt + (16 : Int32)) (8 : Int32)) (own_comp (own_le8 g2_7 (stt + (8 : Int32)) (8 : Int32)) (own_comp (own_le8 g2_7 stt (8 : Int32)) ((u0 ^^^ (8317987319222330741 : Int64)), (u1 ^^^ (7237128888997146477 : Int64)), (u0 ^^^ (7816392313619706465 : Int64)), (u1 ^^^ (8387220255154660723 : Int64)))))) T102.heap n0 z105 p102_0 ge_a9) eh103 (W := 0) (by decide) (by decide) opd___JJ_V rfl (rest := []) rfl (hb hby at_207) (Nat.le_of_eq rfl) (by rw [hml]; rfl) (by decide) (by decide) (pc' := 210) rfl ?_
    intro v106 T106 L106 X106 q106
    obtain ⟨rfl, Nq106, K106, p106_0⟩ := q106
    have N106 := Fr.app N103 Nq106
    show own_G p e below s _ _ _ (T106.setTop (mkF m 210 #[vL u0, vS, vL u1, vS, vL u2, vS, vL u3, vS, vL u4, vS, vI u5, vI ln, vI stt, vI (stt + ln), vR a2, vR a9, vL ((own_le8 g2_7 (stt + ((3 : Int32) * (8 : Int32))) (ln % (8 : Int32))) ||| (ln.toInt64 <<< ((56 : Int32) &&& 0x3f).toInt64)), vS, vU, vU, vU, vU] []))
    refine own_aload X106 hx (hb hby at_210) rfl rfl (pc' := 212) rfl ?_
    refine own_iconst X106 hx (hb hby at_212) (z := (2 : Int32)) rfl (pc' := 213) rfl ?_
    refine own_dup2 X106 hx (hb hby at_213) rfl rfl (pc' := 214) rfl ?_
    refine own_laload X106 hx hZ rfl p106_0 (x := (own_comp ((own_le8 g2_7 (stt + ((3 : Int32) * (8 : Int32))) (ln % (8 : Int32))) ||| (ln.toInt64 <<< ((56 : Int32) &&& 0x3f).toInt64)) (own_comp (own_le8 g2_7 (stt + (16 : Int32)) (8 : Int32)) (own_comp (own_le8 g2_7 (stt + (8 : Int32)) (8 : Int32)) (own_comp (own_le8 g2_7 stt (8 : Int32)) ((u0 ^^^ (8317987319222330741 : Int64)), (u1 ^^^ (7237128888997146477 : Int64)), (u0 ^^^ (7816392313619706465 : Int64)), (u1 ^^^ (8387220255154660723 : Int64))))))).2.2.1) (by decide) rfl (hb hby at_214) (pc' := 215) rfl ?_
    refine own_ldc2 X106 hx hZ hown (ow_26 hw) (hb hby at_215) (pc' := 218) rfl ?_
    refine own_lxor X106 hx (hb hby at_218) (pc' := 219) rfl ?_
    refine own_lastore X106 hx hZ rfl (g' := (own_LJ [(own_comp ((own_le8 g2_7 (stt + ((3 : Int32) * (8 : Int32))) (ln % (8 : Int32))) ||| (ln.toInt64 <<< ((56 : Int32) &&& 0x3f).toInt64)) (own_comp (own_le8 g2_7 (stt + (16 : Int32)) (8 : Int32)) (own_comp (own_le8 g2_7 (stt + (8 : Int32)) (8 : Int32)) (own_comp (own_le8 g2_7 stt (8 : Int32)) ((u0 ^^^ (8317987319222330741 : Int64)), (u1 ^^^ (7237128888997146477 : Int64)), (u0 ^^^ (7816392313619706465 : Int64)), (u1 ^^^ (8387220255154660723 : Int64))))))).1, (own_comp ((own_le8 g2_7 (stt + ((3 : Int32) * (8 : Int32))) (ln % (8 : Int32))) ||| (ln.toInt64 <<< ((56 : Int32) &&& 0x3f).toInt64)) (own_comp (own_le8 g2_7 (stt + (16 : Int32)) (8 : Int32)) (own_comp (own_le8 g2_7 (stt + (8 : Int32)) (8 : Int32)) (own_comp (own_le8 g2_7 stt (8 : Int32)) ((u0 ^^^ (8317987319222330741 : Int64)), (u1 ^^^ (7237128888997146477 : Int64)), (u0 ^^^ (7816392313619706465 : Int64)), (u1 ^^^ (8387220255154660723 : Int64))))))).2.1, (((own_comp ((own_le8 g2_7 (stt + ((3 : Int32) * (8 : Int32))) (ln % (8 : Int32))) ||| (ln.toInt64 <<< ((56 : Int32) &&& 0x3f).toInt64)) (own_comp (own_le8 g2_7 (stt + (16 : Int32)) (8 : Int32)) (own_comp (own_le8 g2_7 (stt + (8 : Int32)) (8 : Int32)) (own_comp (own_le8 g2_7 stt (8 : Int32)) ((u0 ^^^ (8317987319222330741 : Int64)), (u1 ^^^ (7237128888997146477 : Int64)), (u0 ^^^ (7816392313619706465 : Int64)), (u1 ^^^ (8387220255154660723 : Int64))))))).2.2.1) ^^^ (255 : Int64)), (own_comp ((own_le8 g2_7 (stt + ((3 : Int32) * (8 : Int32))) (ln % (8 : Int32))) ||| (ln.toInt64 <<< ((56 : Int32) &&& 0x3f).toInt64)) (own_comp (own_le8 g2_7 (stt + (16 : Int32)) (8 : Int32)) (own_comp (own_le8 g2_7 (stt + (8 : Int32)) (8 : Int32)) (own_comp (own_le8 g2_7 stt (8 : Int32)) ((u0 ^^^ (8317987319222330741 : Int64)), (u1 ^^^ (7237128888997146477 : Int64)), (u0 ^^^ (7816392313619706465 : Int64)), (u1 ^^^ (8387220255154660723 : Int64))))))).2.2.2])) p106_0 (x' := (((own_comp ((own_le8 g2_7 (stt + ((3 : Int32) * (8 : Int32))) (ln % (8 : Int32))) ||| (ln.toInt64 <<< ((56 : Int32) &&& 0x3f).toInt64)) (own_comp (own_le8 g2_7 (stt + (16 : Int32)) (8 : Int32)) (own_comp (own_le8 g2_7 (stt + (8 : Int32)) (8 : Int32)) (own_comp (own_le8 g2_7 stt (8 : Int32)) ((u0 ^^^ (8317987319222330741 : Int64)), (u1 ^^^ (7237128888997146477 : Int64)), (u0 ^^^ (7816392313619706465 : Int64)), (u1 ^^^ (8387220255154660723 : Int64))))))).2.2.1) ^^^ (255 : Int64))) (by decide) rfl (fun i _ => own_LJ_set [(own_comp ((own_le8 g2_7 (stt + ((3 : Int32) * (8 : Int32))) (ln % (8 : Int32))) ||| (ln.toInt64 <<< ((56 : Int32) &&& 0x3f).toInt64)) (own_comp (own_le8 g2_7 (stt + (16 : Int32)) (8 : Int32)) (own_comp (own_le8 g2_7 (stt + (8 : Int32)) (8 : Int32)) (own_comp (own_le8 g2_7 stt (8 : Int32)) ((u0 ^^^ (8317987319222330741 : Int64)), (u1 ^^^ (7237128888997146477 : Int64)), (u0 ^^^ (7816392313619706465 : Int64)), (u1 ^^^ (8387220255154660723 : Int64))))))).1, (own_comp ((own_le8 g2_7 (stt + ((3 : Int32) * (8 : Int32))) (ln % (8 : Int32))) ||| (ln.toInt64 <<< ((56 : Int32) &&& 0x3f).toInt64)) (own_comp (own_le8 g2_7 (stt + (16 : Int32)) (8 : Int32)) (own_comp (own_le8 g2_7 (stt + (8 : Int32)) (8 : Int32)) (own_comp (own_le8 g2_7 stt (8 : Int32)) ((u0 ^^^ (8317987319222330741 : Int64)), (u1 ^^^ (7237128888997146477 : Int64)), (u0 ^^^ (7816392313619706465 : Int64)), (u1 ^^^ (8387220255154660723 : Int64))))))).2.1, (own_comp ((own_le8 g2_7 (stt + ((3 : Int32) * (8 : Int32))) (ln % (8 : Int32))) ||| (ln.toInt64 <<< ((56 : Int32) &&& 0x3f).toInt64)) (own_comp (own_le8 g2_7 (stt + (16 : Int32)) (8 : Int32)) (own_comp (own_le8 g2_7 (stt + (8 : Int32)) (8 : Int32)) (own_comp (own_le8 g2_7 stt (8 : Int32)) ((u0 ^^^ (8317987319222330741 : Int64)), (u1 ^^^ (7237128888997146477 : Int64)), (u0 ^^^ (7816392313619706465 : Int64)), (u1 ^^^ (8387220255154660723 : Int64))))))).2.2.1, (own_comp ((own_le8 g2_7 (stt + ((3 : Int32) * (8 : Int32))) (ln % (8 : Int32))) ||| (ln.toInt64 <<< ((56 : Int32) &&& 0x3f).toInt64)) (own_comp (own_le8 g2_7 (stt + (16 : Int32)) (8 : Int32)) (own_comp (own_le8 g2_7 (stt + (8 : Int32)) (8 : Int32)) (own_comp (own_le8 g2_7 stt (8 : Int32)) ((u0 ^^^ (8317987319222330741 : Int64)), (u1 ^^^ (7237128888997146477 : Int64)), (u0 ^^^ (7816392313619706465 : Int64)), (u1 ^^^ (8387220255154660723 : Int64))))))).2.2.2] 2 (((own_comp ((own_le8 g2_7 (stt + ((3 : Int32) * (8 : Int32))) (ln % (8 : Int32))) ||| (ln.toInt64 <<< ((56 : Int32) &&& 0x3f).toInt64)) (own_comp (own_le8 g2_7 (stt + (16 : Int32)) (8 : Int32)) (own_comp (own_le8 g2_7 (stt + (8 : Int32)) (8 : Int32)) (own_comp (own_le8 g2_7 stt (8 : Int32)) ((u0 ^^^ (8317987319222330741 : Int64)), (u1 ^^^ (7237128888997146477 : Int64)), (u0 ^^^ (7816392313619706465 : Int64)), (u1 ^^^ (8387220255154660723 : Int64))))))).2.2.1) ^^^ (255 : Int64)) (by simp) i) (hb hby at_219) (pc' := 220) rfl ?_
    intro T107 h107 X107 e107 W107 A107
    have N107 := Fr.snoc X107 N106 ge_a9
    refine own_aload X107 hx (hb hby at_220) rfl rfl (pc' := 222) rfl ?_
    have z109 : n0 ≤ h107.size := (Nat.le_trans (Nat.le_trans z105 K106.1) (Nat.le_of_eq (Wr.size W107).symm))
    refine own_callS X107 hx hZ hown (ow_20 hw) (ow_21 hw) (ow_7 hw) (ow_22 hw) (by decide) (rm_round l Z a0 hw a9 ((own_comp ((own_le8 g2_7 (stt + ((3 : Int32) * (8 : Int32))) (ln % (8 : Int32))) ||| (ln.toInt64 <<< ((56 : Int32) &&& 0x3f).toInt64)) (own_comp (own_le8 g2_7 (stt + (16 : Int32)) (8 : Int32)) (own_comp (own_le8 g2_7 (stt + (8 : Int32)) (8 : Int32)) (own_comp (own_le8 g2_7 stt (8 : Int32)) ((u0 ^^^ (8317987319222330741 : Int64)), (u1 ^^^ (7237128888997146477 : Int64)), (u0 ^^^ (7816392313619706465 : Int64)), (u1 ^^^ (8387220255154660723 : Int64))))))).1, (own_comp ((own_le8 g2_7 (stt + ((3 : Int32) * (8 : Int32))) (ln % (8 : Int32))) ||| (ln.toInt64 <<< ((56 : Int32) &&& 0x3f).toInt64)) (own_comp (own_le8 g2_7 (stt + (16 : Int32)) (8 : Int32)) (own_comp (own_le8 g2_7 (stt + (8 : Int32)) (8 : Int32)) (own_comp (own_le8 g2_7 stt (8 : Int32)) ((u0 ^^^ (8317987319222330741 : Int64)), (u1 ^^^ (7237128888997146477 : Int64)), (u0 ^^^ (7816392313619706465 : Int64)), (u1 ^^^ (8387220255154660723 : Int64))))))).2.1, (((own_comp ((own_le8 g2_7 (stt + ((3 : Int32) * (8 : Int32))) (ln % (8 : Int32))) ||| (ln.toInt64 <<< ((56 : Int32) &&& 0x3f).toInt64)) (own_comp (own_le8 g2_7 (stt + (16 : Int32)) (8 : Int32)) (own_comp (own_le8 g2_7 (stt + (8 : Int32)) (8 : Int32)) (own_comp (own_le8 g2_7 stt (8 : Int32)) ((u0 ^^^ (8317987319222330741 : Int64)), (u1 ^^^ (7237128888997146477 : Int64)), (u0 ^^^ (7816392313619706465 : Int64)), (u1 ^^^ (8387220255154660723 : Int64))))))).2.2.1) ^^^ (255 : Int64)), (own_comp ((own_le8 g2_7 (stt + ((3 : Int32) * (8 : Int32))) (ln % (8 : Int32))) ||| (ln.toInt64 <<< ((56 : Int32) &&& 0x3f).toInt64)) (own_comp (own_le8 g2_7 (stt + (16 : Int32)) (8 : Int32)) (own_comp (own_le8 g2_7 (stt + (8 : Int32)) (8 : Int32)) (own_comp (own_le8 g2_7 stt (8 : Int32)) ((u0 ^^^ (8317987319222330741 : Int64)), (u1 ^^^ (7237128888997146477 : Int64)), (u0 ^^^ (7816392313619706465 : Int64)), (u1 ^^^ (8387220255154660723 : Int64))))))).2.2.2) h107 n0 z109 A107 ge_a9) e107 (W := 0) (by decide) (by decide) opd___J_V rfl (rest := []) rfl (hb hby at_222) (Nat.le_of_eq rfl) (by rw [hml]; rfl) (by decide) (by decide) (pc' := 225) rfl ?_
    intro v108 T108 L108 X108 q108
    obtain ⟨rfl, Nq108, K108, p108_0⟩ := q108
    have N108 := Fr.app N107 Nq108
    show own_G p e below s _ _ _ (T108.setTop (mkF m 225 #[vL u0, vS, vL u1, vS, vL u2, vS, vL u3, vS, vL u4, vS, vI u5, vI ln, vI stt, vI (stt + ln), vR a2, vR a9, vL ((own_le8 g2_7 (stt + ((3 : Int32) * (8 : Int32))) (ln % (8 : Int32))) ||| (ln.toInt64 <<< ((56 : Int32) &&& 0x3f).toInt64)), vS, vU, vU, vU, vU] []))
    refine own_aload X108 hx (hb hby at_225) rfl rfl (pc' := 227) rfl ?_
    have z111 : n0 ≤ T108.heap.size := (Nat.le_trans z109 K108.1)
    refine own_callS X108 hx hZ hown (ow_20 hw) (ow_21 hw) (ow_7 hw) (ow_22 hw) (by decide) (rm_round l Z a0 hw a9 (own_round ((own_comp ((own_le8 g2_7 (stt + ((3 : Int32) * (8 : Int32))) (ln % (8 : Int32))) ||| (ln.toInt64 <<< ((56 : Int32) &&& 0x3f).toInt64)) (own_comp (own_le8 g2_7 (stt + (16 : Int32)) (8 : Int32)) (own_comp (own_le8 g2_7 (stt + (8 : Int32)) (8 : Int32)) (own_comp (own_le8 g2_7 stt (8 : Int32)) ((u0 ^^^ (8317987319222330741 : Int64)), (u1 ^^^ (7237128888997146477 : Int64)), (u0 ^^^ (7816392313619706465 : Int64)), (u1 ^^^ (8387220255154660723 : Int64))))))).1, (own_comp ((own_le8 g2_7 (stt + ((3 : Int32) * (8 : Int32))) (ln % (8 : Int32))) ||| (ln.toInt64 <<< ((56 : Int32) &&& 0x3f).toInt64)) (own_comp (own_le8 g2_7 (stt + (16 : Int32)) (8 : Int32)) (own_comp (own_le8 g2_7 (stt + (8 : Int32)) (8 : Int32)) (own_comp (own_le8 g2_7 stt (8 : Int32)) ((u0 ^^^ (8317987319222330741 : Int64)), (u1 ^^^ (7237128888997146477 : Int64)), (u0 ^^^ (7816392313619706465 : Int64)), (u1 ^^^ (8387220255154660723 : Int64))))))).2.1, (((own_comp ((own_le8 g2_7 (stt + ((3 : Int32) * (8 : Int32))) (ln % (8 : Int32))) ||| (ln.toInt64 <<< ((56 : Int32) &&& 0x3f).toInt64)) (own_comp (own_le8 g2_7 (stt + (16 : Int32)) (8 : Int32)) (own_comp (own_le8 g2_7 (stt + (8 : Int32)) (8 : Int32)) (own_comp (own_le8 g2_7 stt (8 : Int32)) ((u0 ^^^ (8317987319222330741 : Int64)), (u1 ^^^ (7237128888997146477 : Int64)), (u0 ^^^ (7816392313619706465 : Int64)), (u1 ^^^ (8387220255154660723 : Int64))))))).2.2.1) ^^^ (255 : Int64)), (own_comp ((own_le8 g2_7 (stt + ((3 : Int32) * (8 : Int32))) (ln % (8 : Int32))) ||| (ln.toInt64 <<< ((56 : Int32) &&& 0x3f).toInt64)) (own_comp (own_le8 g2_7 (stt + (16 : Int32)) (8 : Int32)) (own_comp (own_le8 g2_7 (stt + (8 : Int32)) (8 : Int32)) (own_comp (own_le8 g2_7 stt (8 : Int32)) ((u0 ^^^ (8317987319222330741 : Int64)), (u1 ^^^ (7237128888997146477 : Int64)), (u0 ^^^ (7816392313619706465 : Int64)), (u1 ^^^ (8387220255154660723 : Int64))))))).2.2.2)) T108.heap n0 z111 p108_0 ge_a9) rfl (W := 0) (by decide) (by decide) opd___J_V rfl (rest := []) rfl (hb hby at_227) (Nat.le_of_eq rfl) (by rw [hml]; rfl) (by decide) (by decide) (pc' := 230) rfl ?_
    intro v110 T110 L110 X110 q110
    obtain ⟨rfl, Nq110, K110, p110_0⟩ := q110
    have N110 := Fr.app N108 Nq110
    show own_G p e below s _ _ _ (T110.setTop (mkF m 230 #[vL u0, vS, vL u1, vS, vL u2, vS, vL u3, vS, vL u4, vS, vI u5, vI ln, vI stt, vI (stt + ln), vR a2, vR a9, vL ((own_le8 g2_7 (stt + ((3 : Int32) * (8 : Int32))) (ln % (8 : Int32))) ||| (ln.toInt64 <<< ((56 : Int32) &&& 0x3f).toInt64)), vS, vU, vU, vU, vU] []))
    refine own_aload X110 hx (hb hby at_230) rfl rfl (pc' := 232) rfl ?_
    have z113 : n0 ≤ T110.heap.size := (Nat.le_trans z111 K110.1)
    refine own_callS X110 hx hZ hown (ow_20 hw) (ow_21 hw) (ow_7 hw) (ow_22 hw) (by decide) (rm_round l Z a0 hw a9 (own_round (own_round ((own_comp ((own_le8 g2_7 (stt + ((3 : Int32) * (8 : Int32))) (ln % (8 : Int32))) ||| (ln.toInt64 <<< ((56 : Int32) &&& 0x3f).toInt64)) (own_comp (own_le8 g2_7 (stt + (16 : Int32)) (8 : Int32)) (own_comp (own_le8 g2_7 (stt + (8 : Int32)) (8 : Int32)) (own_comp (own_le8 g2_7 stt (8 : Int32)) ((u0 ^^^ (8317987319222330741 : Int64)), (u1 ^^^ (7237128888997146477 : Int64)), (u0 ^^^ (7816392313619706465 : Int64)), (u1 ^^^ (8387220255154660723 : Int64))))))).1, (own_comp ((own_le8 g2_7 (stt + ((3 : Int32) * (8 : Int32))) (ln % (8 : Int32))) ||| (ln.toInt64 <<< ((56 : Int32) &&& 0x3f).toInt64)) (own_comp (own_le8 g2_7 (stt + (16 : Int32)) (8 : Int32)) (own_comp (own_le8 g2_7 (stt + (8 : Int32)) (8 : Int32)) (own_comp (own_le8 g2_7 stt (8 : Int32)) ((u0 ^^^ (8317987319222330741 : Int64)), (u1 ^^^ (7237128888997146477 : Int64)), (u0 ^^^ (7816392313619706465 : Int64)), (u1 ^^^ (8387220255154660723 : Int64))))))).2.1, (((own_comp ((own_le8 g2_7 (stt + ((3 : Int32) * (8 : Int32))) (ln % (8 : Int32))) ||| (ln.toInt64 <<< ((56 : Int32) &&& 0x3f).toInt64)) (own_comp (own_le8 g2_7 (stt + (16 : Int32)) (8 : Int32)) (own_comp (own_le8 g2_7 (stt + (8 : Int32)) (8 : Int32)) (own_comp (own_le8 g2_7 stt (8 : Int32)) ((u0 ^^^ (8317987319222330741 : Int64)), (u1 ^^^ (7237128888997146477 : Int64)), (u0 ^^^ (7816392313619706465 : Int64)), (u1 ^^^ (8387220255154660723 : Int64))))))).2.2.1) ^^^ (255 : Int64)), (own_comp ((own_le8 g2_7 (stt + ((3 : Int32) * (8 : Int32))) (ln % (8 : Int32))) ||| (ln.toInt64 <<< ((56 : Int32) &&& 0x3f).toInt64)) (own_comp (own_le8 g2_7 (stt + (16 : Int32)) (8 : Int32)) (own_comp (own_le8 g2_7 (stt + (8 : Int32)) (8 : Int32)) (own_comp (own_le8 g2_7 stt (8 : Int32)) ((u0 ^^^ (8317987319222330741 : Int64)), (u1 ^^^ (7237128888997146477 : Int64)), (u0 ^^^ (7816392313619706465 : Int64)), (u1 ^^^ (8387220255154660723 : Int64))))))).2.2.2))) T110.heap n0 z113 p110_0 ge_a9) rfl (W := 0) (by decide) (by decide) opd___J_V rfl (rest := []) rfl (hb hby at_232) (Nat.le_of_eq rfl) (by rw [hml]; rfl) (by decide) (by decide) (pc' := 235) rfl ?_
    intro v112 T112 L112 X112 q112
    obtain ⟨rfl, Nq112, K112, p112_0⟩ := q112
    have N112 := Fr.app N110 Nq112
    show own_G p e below s _ _ _ (T112.setTop (mkF m 235 #[vL u0, vS, vL u1, vS, vL u2, vS, vL u3, vS, vL u4, vS, vI u5, vI ln, vI stt, vI (stt + ln), vR a2, vR a9, vL ((own_le8 g2_7 (stt + ((3 : Int32) * (8 : Int32))) (ln % (8 : Int32))) ||| (ln.toInt64 <<< ((56 : Int32) &&& 0x3f).toInt64)), vS, vU, vU, vU, vU] []))
    refine own_aload X112 hx (hb hby at_235) rfl rfl (pc' := 237) rfl ?_
    refine own_iconst X112 hx (hb hby at_237) (z := (0 : Int32)) rfl (pc' := 238) rfl ?_
    refine own_laload X112 hx hZ rfl p112_0 (x := (own_round (own_round (own_round ((own_comp ((own_le8 g2_7 (stt + ((3 : Int32) * (8 : Int32))) (ln % (8 : Int32))) ||| (ln.toInt64 <<< ((56 : Int32) &&& 0x3f).toInt64)) (own_comp (own_le8 g2_7 (stt + (16 : Int32)) (8 : Int32)) (own_comp (own_le8 g2_7 (stt + (8 : Int32)) (8 : Int32)) (own_comp (own_le8 g2_7 stt (8 : Int32)) ((u0 ^^^ (8317987319222330741 : Int64)), (u1 ^^^ (7237128888997146477 : Int64)), (u0 ^^^ (7816392313619706465 : Int64)), (u1 ^^^ (8387220255154660723 : Int64))))))).1, (own_comp ((own_le8 g2_7 (stt + ((3 : Int32) * (8 : Int32))) (ln % (8 : Int32))) ||| (ln.toInt64 <<< ((56 : Int32) &&& 0x3f).toInt64)) (own_comp (own_le8 g2_7 (stt + (16 : Int32)) (8 : Int32)) (own_comp (own_le8 g2_7 (stt + (8 : Int32)) (8 : Int32)) (own_comp (own_le8 g2_7 stt (8 : Int32)) ((u0 ^^^ (8317987319222330741 : Int64)), (u1 ^^^ (7237128888997146477 : Int64)), (u0 ^^^ (7816392313619706465 : Int64)), (u1 ^^^ (8387220255154660723 : Int64))))))).2.1, (((own_comp ((own_le8 g2_7 (stt + ((3 : Int32) * (8 : Int32))) (ln % (8 : Int32))) ||| (ln.toInt64 <<< ((56 : Int32) &&& 0x3f).toInt64)) (own_comp (own_le8 g2_7 (stt + (16 : Int32)) (8 : Int32)) (own_comp (own_le8 g2_7 (stt + (8 : Int32)) (8 : Int32)) (own_comp (own_le8 g2_7 stt (8 : Int32)) ((u0 ^^^ (8317987319222330741 : Int64)), (u1 ^^^ (7237128888997146477 : Int64)), (u0 ^^^ (7816392313619706465 : Int64)), (u1 ^^^ (8387220255154660723 : Int64))))))).2.2.1) ^^^ (255 : Int64)), (own_comp ((own_le8 g2_7 (stt + ((3 : Int32) * (8 : Int32))) (ln % (8 : Int32))) ||| (ln.toInt64 <<< ((56 : Int32) &&& 0x3f).toInt64)) (own_comp (own_le8 g2_7 (stt + (16 : Int32)) (8 : Int32)) (own_comp (own_le8 g2_7 (stt + (8 : Int32)) (8 : Int32)) (own_comp (own_le8 g2_7 stt (8 : Int32)) ((u0 ^^^ (8317987319222330741 : Int64)), (u1 ^^^ (7237128888997146477 : Int64)), (u0 ^^^ (7816392313619706465 : Int64)), (u1 ^^^ (8387220255154660723 : Int64))))))).2.2.2)))).1) (by decide) rfl (hb hby at_238) (pc' := 239) rfl ?_
    refine own_aload X112 hx (hb hby at_239) rfl rfl (pc' := 241) rfl ?_
    refine own_iconst X112 hx (hb hby at_241) (z := (1 : Int32)) rfl (pc' := 242) rfl ?_
    refine own_laload X112 hx hZ rfl p112_0 (x := (own_round (own_round (own_round ((own_comp ((own_le8 g2_7 (stt + ((3 : Int32) * (8 : Int32))) (ln % (8 : Int32))) ||| (ln.toInt64 <<< ((56 : Int32) &&& 0x3f).toInt64)) (own_comp (own_le8 g2_7 (stt + (16 : Int32)) (8 : Int32)) (own_comp (own_le8 g2_7 (stt + (8 : Int32)) (8 : Int32)) (own_comp (own_le8 g2_7 stt (8 : Int32)) ((u0 ^^^ (8317987319222330741 : Int64)), (u1 ^^^ (7237128888997146477 : Int64)), (u0 ^^^ (7816392313619706465 : Int64)), (u1 ^^^ (8387220255154660723 : Int64))))))).1, (own_comp ((own_le8 g2_7 (stt + ((3 : Int32) * (8 : Int32))) (ln % (8 : Int32))) ||| (ln.toInt64 <<< ((56 : Int32) &&& 0x3f).toInt64)) (own_comp (own_le8 g2_7 (stt + (16 : Int32)) (8 : Int32)) (own_comp (own_le8 g2_7 (stt + (8 : Int32)) (8 : Int32)) (own_comp (own_le8 g2_7 stt (8 : Int32)) ((u0 ^^^ (8317987319222330741 : Int64)), (u1 ^^^ (7237128888997146477 : Int64)), (u0 ^^^ (7816392313619706465 : Int64)), (u1 ^^^ (8387220255154660723 : Int64))))))).2.1, (((own_comp ((own_le8 g2_7 (stt + ((3 : Int32) * (8 : Int32))) (ln % (8 : Int32))) ||| (ln.toInt64 <<< ((56 : Int32) &&& 0x3f).toInt64)) (own_comp (own_le8 g2_7 (stt + (16 : Int32)) (8 : Int32)) (own_comp (own_le8 g2_7 (stt + (8 : Int32)) (8 : Int32)) (own_comp (own_le8 g2_7 stt (8 : Int32)) ((u0 ^^^ (8317987319222330741 : Int64)), (u1 ^^^ (7237128888997146477 : Int64)), (u0 ^^^ (7816392313619706465 : Int64)), (u1 ^^^ (8387220255154660723 : Int64))))))).2.2.1) ^^^ (255 : Int64)), (own_comp ((own_le8 g2_7 (stt + ((3 : Int32) * (8 : Int32))) (ln % (8 : Int32))) ||| (ln.toInt64 <<< ((56 : Int32) &&& 0x3f).toInt64)) (own_comp (own_le8 g2_7 (stt + (16 : Int32)) (8 : Int32)) (own_comp (own_le8 g2_7 (stt + (8 : Int32)) (8 : Int32)) (own_comp (own_le8 g2_7 stt (8 : Int32)) ((u0 ^^^ (8317987319222330741 : Int64)), (u1 ^^^ (7237128888997146477 : Int64)), (u0 ^^^ (7816392313619706465 : Int64)), (u1 ^^^ (8387220255154660723 : Int64))))))).2.2.2)))).2.1) (by decide) rfl (hb hby at_242) (pc' := 243) rfl ?_
    refine own_lxor X112 hx (hb hby at_243) (pc' := 244) rfl ?_
    refine own_aload X112 hx (hb hby at_244) rfl rfl (pc' := 246) rfl ?_
    refine own_iconst X112 hx (hb hby at_246) (z := (2 : Int32)) rfl (pc' := 247) rfl ?_
    refine own_laload X112 hx hZ rfl p112_0 (x := (own_round (own_round (own_round ((own_comp ((own_le8 g2_7 (stt + ((3 : Int32) * (8 : Int32))) (ln % (8 : Int32))) ||| (ln.toInt64 <<< ((56 : Int32) &&& 0x3f).toInt64)) (own_comp (own_le8 g2_7 (stt + (16 : Int32)) (8 : Int32)) (own_comp (own_le8 g2_7 (stt + (8 : Int32)) (8 : Int32)) (own_comp (own_le8 g2_7 stt (8 : Int32)) ((u0 ^^^ (8317987319222330741 : Int64)), (u1 ^^^ (7237128888997146477 : Int64)), (u0 ^^^ (7816392313619706465 : Int64)), (u1 ^^^ (8387220255154660723 : Int64))))))).1, (own_comp ((own_le8 g2_7 (stt + ((3 : Int32) * (8 : Int32))) (ln % (8 : Int32))) ||| (ln.toInt64 <<< ((56 : Int32) &&& 0x3f).toInt64)) (own_comp (own_le8 g2_7 (stt + (16 : Int32)) (8 : Int32)) (own_comp (own_le8 g2_7 (stt + (8 : Int32)) (8 : Int32)) (own_comp (own_le8 g2_7 stt (8 : Int32)) ((u0 ^^^ (8317987319222330741 : Int64)), (u1 ^^^ (7237128888997146477 : Int64)), (u0 ^^^ (7816392313619706465 : Int64)), (u1 ^^^ (8387220255154660723 : Int64))))))).2.1, (((own_comp ((own_le8 g2_7 (stt + ((3 : Int32) * (8 : Int32))) (ln % (8 : Int32))) ||| (ln.toInt64 <<< ((56 : Int32) &&& 0x3f).toInt64)) (own_comp (own_le8 g2_7 (stt + (16 : Int32)) (8 : Int32)) (own_comp (own_le8 g2_7 (stt + (8 : Int32)) (8 : Int32)) (own_comp (own_le8 g2_7 stt (8 : Int32)) ((u0 ^^^ (8317987319222330741 : Int64)), (u1 ^^^ (7237128888997146477 : Int64)), (u0 ^^^ (7816392313619706465 : Int64)), (u1 ^^^ (8387220255154660723 : Int64))))))).2.2.1) ^^^ (255 : Int64)), (own_comp ((own_le8 g2_7 (stt + ((3 : Int32) * (8 : Int32))) (ln % (8 : Int32))) ||| (ln.toInt64 <<< ((56 : Int32) &&& 0x3f).toInt64)) (own_comp (own_le8 g2_7 (stt + (16 : Int32)) (8 : Int32)) (own_comp (own_le8 g2_7 (stt + (8 : Int32)) (8 : Int32)) (own_comp (own_le8 g2_7 stt (8 : Int32)) ((u0 ^^^ (8317987319222330741 : Int64)), (u1 ^^^ (7237128888997146477 : Int64)), (u0 ^^^ (7816392313619706465 : Int64)), (u1 ^^^ (8387220255154660723 : Int64))))))).2.2.2)))).2.2.1) (by decide) rfl (hb hby at_247) (pc' := 248) rfl ?_
    refine own_lxor X112 hx (hb hby at_248) (pc' := 249) rfl ?_
    refine own_aload X112 hx (hb hby at_249) rfl rfl (pc' := 251) rfl ?_
    refine own_iconst X112 hx (hb hby at_251) (z := (3 : Int32)) rfl (pc' := 252) rfl ?_
    refine own_laload X112 hx hZ rfl p112_0 (x := (own_round (own_round (own_round ((own_comp ((own_le8 g2_7 (stt + ((3 : Int32) * (8 : Int32))) (ln % (8 : Int32))) ||| (ln.toInt64 <<< ((56 : Int32) &&& 0x3f).toInt64)) (own_comp (own_le8 g2_7 (stt + (16 : Int32)) (8 : Int32)) (own_comp (own_le8 g2_7 (stt + (8 : Int32)) (8 : Int32)) (own_comp (own_le8 g2_7 stt (8 : Int32)) ((u0 ^^^ (8317987319222330741 : Int64)), (u1 ^^^ (7237128888997146477 : Int64)), (u0 ^^^ (7816392313619706465 : Int64)), (u1 ^^^ (8387220255154660723 : Int64))))))).1, (own_comp ((own_le8 g2_7 (stt + ((3 : Int32) * (8 : Int32))) (ln % (8 : Int32))) ||| (ln.toInt64 <<< ((56 : Int32) &&& 0x3f).toInt64)) (own_comp (own_le8 g2_7 (stt + (16 : Int32)) (8 : Int32)) (own_comp (own_le8 g2_7 (stt + (8 : Int32)) (8 : Int32)) (own_comp (own_le8 g2_7 stt (8 : Int32)) ((u0 ^^^ (8317987319222330741 : Int64)), (u1 ^^^ (7237128888997146477 : Int64)), (u0 ^^^ (7816392313619706465 : Int64)), (u1 ^^^ (8387220255154660723 : Int64))))))).2.1, (((own_comp ((own_le8 g2_7 (stt + ((3 : Int32) * (8 : Int32))) (ln % (8 : Int32))) ||| (ln.toInt64 <<< ((56 : Int32) &&& 0x3f).toInt64)) (own_comp (own_le8 g2_7 (stt + (16 : Int32)) (8 : Int32)) (own_comp (own_le8 g2_7 (stt + (8 : Int32)) (8 : Int32)) (own_comp (own_le8 g2_7 stt (8 : Int32)) ((u0 ^^^ (8317987319222330741 : Int64)), (u1 ^^^ (7237128888997146477 : Int64)), (u0 ^^^ (7816392313619706465 : Int64)), (u1 ^^^ (8387220255154660723 : Int64))))))).2.2.1) ^^^ (255 : Int64)), (own_comp ((own_le8 g2_7 (stt + ((3 : Int32) * (8 : Int32))) (ln % (8 : Int32))) ||| (ln.toInt64 <<< ((56 : Int32) &&& 0x3f).toInt64)) (own_comp (own_le8 g2_7 (stt + (16 : Int32)) (8 : Int32)) (own_comp (own_le8 g2_7 (stt + (8 : Int32)) (8 : Int32)) (own_comp (own_le8 g2_7 stt (8 : Int32)) ((u0 ^^^ (8317987319222330741 : Int64)), (u1 ^^^ (7237128888997146477 : Int64)), (u0 ^^^ (7816392313619706465 : Int64)), (u1 ^^^ (8387220255154660723 : Int64))))))).2.2.2)))).2.2.2) (by decide) rfl (hb hby at_252) (pc' := 253) rfl ?_
    refine own_lxor X112 hx (hb hby at_253) (pc' := 254) rfl ?_
    refine own_lstore X112 hx (hb hby at_254) (l' := #[vL u0, vS, vL u1, vS, vL u2, vS, vL u3, vS, vL u4, vS, vI u5, vI ln, vI stt, vI (stt + ln), vR a2, vR a9, vL ((own_le8 g2_7 (stt + ((3 : Int32) * (8 : Int32))) (ln % (8 : Int32))) ||| (ln.toInt64 <<< ((56 : Int32) &&& 0x3f).toInt64)), vS, vL (((((own_round (own_round (own_round ((own_comp ((own_le8 g2_7 (stt + ((3 : Int32) * (8 : Int32))) (ln % (8 : Int32))) ||| (ln.toInt64 <<< ((56 : Int32) &&& 0x3f).toInt64)) (own_comp (own_le8 g2_7 (stt + (16 : Int32)) (8 : Int32)) (own_comp (own_le8 g2_7 (stt + (8 : Int32)) (8 : Int32)) (own_comp (own_le8 g2_7 stt (8 : Int32)) ((u0 ^^^ (8317987319222330741 : Int64)), (u1 ^^^ (7237128888997146477 : Int64)), (u0 ^^^ (7816392313619706465 : Int64)), (u1 ^^^ (8387220255154660723 : Int64))))))).1, (own_comp ((own_le8 g2_7 (stt + ((3 : Int32) * (8 : Int32))) (ln % (8 : Int32))) ||| (ln.toInt64 <<< ((56 : Int32) &&& 0x3f).toInt64)) (own_comp (own_le8 g2_7 (stt + (16 : Int32)) (8 : Int32)) (own_comp (own_le8 g2_7 (stt + (8 : Int32)) (8 : Int32)) (own_comp (own_le8 g2_7 stt (8 : Int32)) ((u0 ^^^ (8317987319222330741 : Int64)), (u1 ^^^ (7237128888997146477 : Int64)), (u0 ^^^ (7816392313619706465 : Int64)), (u1 ^^^ (8387220255154660723 : Int64))))))).2.1, (((own_comp ((own_le8 g2_7 (stt + ((3 : Int32) * (8 : Int32))) (ln % (8 : Int32))) ||| (ln.toInt64 <<< ((56 : Int32) &&& 0x3f).toInt64)) (own_comp (own_le8 g2_7 (stt + (16 : Int32)) (8 : Int32)) (own_comp (own_le8 g2_7 (stt + (8 : Int32)) (8 : Int32)) (own_comp (own_le8 g2_7 stt (8 : Int32)) ((u0 ^^^ (8317987319222330741 : Int64)), (u1 ^^^ (7237128888997146477 : Int64)), (u0 ^^^ (7816392313619706465 : Int64)), (u1 ^^^ (8387220255154660723 : Int64))))))).2.2.1) ^^^ (255 : Int64)), (own_comp ((own_le8 g2_7 (stt + ((3 : Int32) * (8 : Int32))) (ln % (8 : Int32))) ||| (ln.toInt64 <<< ((56 : Int32) &&& 0x3f).toInt64)) (own_comp (own_le8 g2_7 (stt + (16 : Int32)) (8 : Int32)) (own_comp (own_le8 g2_7 (stt + (8 : Int32)) (8 : Int32)) (own_comp (own_le8 g2_7 stt (8 : Int32)) ((u0 ^^^ (8317987319222330741 : Int64)), (u1 ^^^ (7237128888997146477 : Int64)), (u0 ^^^ (7816392313619706465 : Int64)), (u1 ^^^ (8387220255154660723 : Int64))))))).2.2.2)))).1) ^^^ ((own_round (own_round (own_round ((own_comp ((own_le8 g2_7 (stt + ((3 : Int32) * (8 : Int32))) (ln % (8 : Int32))) ||| (ln.toInt64 <<< ((56 : Int32) &&& 0x3f).toInt64)) (own_comp (own_le8 g2_7 (stt + (16 : Int32)) (8 : Int32)) (own_comp (own_le8 g2_7 (stt + (8 : Int32)) (8 : Int32)) (own_comp (own_le8 g2_7 stt (8 : Int32)) ((u0 ^^^ (8317987319222330741 : Int64)), (u1 ^^^ (7237128888997146477 : Int64)), (u0 ^^^ (7816392313619706465 : Int64)), (u1 ^^^ (8387220255154660723 : Int64))))))).1, (own_comp ((own_le8 g2_7 (stt + ((3 : Int32) * (8 : Int32))) (ln % (8 : Int32))) ||| (ln.toInt64 <<< ((56 : Int32) &&& 0x3f).toInt64)) (own_comp (own_le8 g2_7 (stt + (16 : Int32)) (8 : Int32)) (own_comp (own_le8 g2_7 (stt + (8 : Int32)) (8 : Int32)) (own_comp (own_le8 g2_7 stt (8 : Int32)) ((u0 ^^^ (8317987319222330741 : Int64)), (u1 ^^^ (7237128888997146477 : Int64)), (u0 ^^^ (7816392313619706465 : Int64)), (u1 ^^^ (8387220255154660723 : Int64))))))).2.1, (((own_comp ((own_le8 g2_7 (stt + ((3 : Int32) * (8 : Int32))) (ln % (8 : Int32))) ||| (ln.toInt64 <<< ((56 : Int32) &&& 0x3f).toInt64)) (own_comp (own_le8 g2_7 (stt + (16 : Int32)) (8 : Int32)) (own_comp (own_le8 g2_7 (stt + (8 : Int32)) (8 : Int32)) (own_comp (own_le8 g2_7 stt (8 : Int32)) ((u0 ^^^ (8317987319222330741 : Int64)), (u1 ^^^ (7237128888997146477 : Int64)), (u0 ^^^ (7816392313619706465 : Int64)), (u1 ^^^ (8387220255154660723 : Int64))))))).2.2.1) ^^^ (255 : Int64)), (own_comp ((own_le8 g2_7 (stt + ((3 : Int32) * (8 : Int32))) (ln % (8 : Int32))) ||| (ln.toInt64 <<< ((56 : Int32) &&& 0x3f).toInt64)) (own_comp (own_le8 g2_7 (stt + (16 : Int32)) (8 : Int32)) (own_comp (own_le8 g2_7 (stt + (8 : Int32)) (8 : Int32)) (own_comp (own_le8 g2_7 stt (8 : Int32)) ((u0 ^^^ (8317987319222330741 : Int64)), (u1 ^^^ (7237128888997146477 : Int64)), (u0 ^^^ (7816392313619706465 : Int64)), (u1 ^^^ (8387220255154660723 : Int64))))))).2.2.2)))).2.1)) ^^^ ((own_round (own_round (own_round ((own_comp ((own_le8 g2_7 (stt + ((3 : Int32) * (8 : Int32))) (ln % (8 : Int32))) ||| (ln.toInt64 <<< ((56 : Int32) &&& 0x3f).toInt64)) (own_comp (own_le8 g2_7 (stt + (16 : Int32)) (8 : Int32)) (own_comp (own_le8 g2_7 (stt + (8 : Int32)) (8 : Int32)) (own_comp (own_le8 g2_7 stt (8 : Int32)) ((u0 ^^^ (8317987319222330741 : Int64)), (u1 ^^^ (7237128888997146477 : Int64)), (u0 ^^^ (7816392313619706465 : Int64)), (u1 ^^^ (8387220255154660723 : Int64))))))).1, (own_comp ((own_le8 g2_7 (stt + ((3 : Int32) * (8 : Int32))) (ln % (8 : Int32))) ||| (ln.toInt64 <<< ((56 : Int32) &&& 0x3f).toInt64)) (own_comp (own_le8 g2_7 (stt + (16 : Int32)) (8 : Int32)) (own_comp (own_le8 g2_7 (stt + (8 : Int32)) (8 : Int32)) (own_comp (own_le8 g2_7 stt (8 : Int32)) ((u0 ^^^ (8317987319222330741 : Int64)), (u1 ^^^ (7237128888997146477 : Int64)), (u0 ^^^ (7816392313619706465 : Int64)), (u1 ^^^ (8387220255154660723 : Int64))))))).2.1, (((own_comp ((own_le8 g2_7 (stt + ((3 : Int32) * (8 : Int32))) (ln % (8 : Int32))) ||| (ln.toInt64 <<< ((56 : Int32) &&& 0x3f).toInt64)) (own_comp (own_le8 g2_7 (stt + (16 : Int32)) (8 : Int32)) (own_comp (own_le8 g2_7 (stt + (8 : Int32)) (8 : Int32)) (own_comp (own_le8 g2_7 stt (8 : Int32)) ((u0 ^^^ (8317987319222330741 : Int64)), (u1 ^^^ (7237128888997146477 : Int64)), (u0 ^^^ (7816392313619706465 : Int64)), (u1 ^^^ (8387220255154660723 : Int64))))))).2.2.1) ^^^ (255 : Int64)), (own_comp ((own_le8 g2_7 (stt + ((3 : Int32) * (8 : Int32))) (ln % (8 : Int32))) ||| (ln.toInt64 <<< ((56 : Int32) &&& 0x3f).toInt64)) (own_comp (own_le8 g2_7 (stt + (16 : Int32)) (8 : Int32)) (own_comp (own_le8 g2_7 (stt + (8 : Int32)) (8 : Int32)) (own_comp (own_le8 g2_7 stt (8 : Int32)) ((u0 ^^^ (8317987319222330741 : Int64)), (u1 ^^^ (7237128888997146477 : Int64)), (u0 ^^^ (7816392313619706465 : Int64)), (u1 ^^^ (8387220255154660723 : Int64))))))).2.2.2)))).2.2.1)) ^^^ ((own_round (own_round (own_round ((own_comp ((own_le8 g2_7 (stt + ((3 : Int32) * (8 : Int32))) (ln % (8 : Int32))) ||| (ln.toInt64 <<< ((56 : Int32) &&& 0x3f).toInt64)) (own_comp (own_le8 g2_7 (stt + (16 : Int32)) (8 : Int32)) (own_comp (own_le8 g2_7 (stt + (8 : Int32)) (8 : Int32)) (own_comp (own_le8 g2_7 stt (8 : Int32)) ((u0 ^^^ (8317987319222330741 : Int64)), (u1 ^^^ (7237128888997146477 : Int64)), (u0 ^^^ (7816392313619706465 : Int64)), (u1 ^^^ (8387220255154660723 : Int64))))))).1, (own_comp ((own_le8 g2_7 (stt + ((3 : Int32) * (8 : Int32))) (ln % (8 : Int32))) ||| (ln.toInt64 <<< ((56 : Int32) &&& 0x3f).toInt64)) (own_comp (own_le8 g2_7 (stt + (16 : Int32)) (8 : Int32)) (own_comp (own_le8 g2_7 (stt + (8 : Int32)) (8 : Int32)) (own_comp (own_le8 g2_7 stt (8 : Int32)) ((u0 ^^^ (8317987319222330741 : Int64)), (u1 ^^^ (7237128888997146477 : Int64)), (u0 ^^^ (7816392313619706465 : Int64)), (u1 ^^^ (8387220255154660723 : Int64))))))).2.1, (((own_comp ((own_le8 g2_7 (stt + ((3 : Int32) * (8 : Int32))) (ln % (8 : Int32))) ||| (ln.toInt64 <<< ((56 : Int32) &&& 0x3f).toInt64)) (own_comp (own_le8 g2_7 (stt + (16 : Int32)) (8 : Int32)) (own_comp (own_le8 g2_7 (stt + (8 : Int32)) (8 : Int32)) (own_comp (own_le8 g2_7 stt (8 : Int32)) ((u0 ^^^ (8317987319222330741 : Int64)), (u1 ^^^ (7237128888997146477 : Int64)), (u0 ^^^ (7816392313619706465 : Int64)), (u1 ^^^ (8387220255154660723 : Int64))))))).2.2.1) ^^^ (255 : Int64)), (own_comp ((own_le8 g2_7 (stt + ((3 : Int32) * (8 : Int32))) (ln % (8 : Int32))) ||| (ln.toInt64 <<< ((56 : Int32) &&& 0x3f).toInt64)) (own_comp (own_le8 g2_7 (stt + (16 : Int32)) (8 : Int32)) (own_comp (own_le8 g2_7 (stt + (8 : Int32)) (8 : Int32)) (own_comp (own_le8 g2_7 stt (8 : Int32)) ((u0 ^^^ (8317987319222330741 : Int64)), (u1 ^^^ (7237128888997146477 : Int64)), (u0 ^^^ (7816392313619706465 : Int64)), (u1 ^^^ (8387220255154660723 : Int64))))))).2.2.2)))).2.2.2)), vS, vU, vU]) rfl (pc' := 256) rfl ?_
    have z115 : n0 ≤ T112.heap.size := (Nat.le_trans z113 K112.1)
    have f116 : own_AI Z T112.heap a2 .byte (24 : Int32) g2_7 := (((((f104.keep K106 (ninS (Nat.ne_of_lt lt_a2_a9) nin0)).other W107 (Nat.ne_of_lt lt_a2_a9)).keep K108 (ninS (Nat.ne_of_lt lt_a2_a9) nin0)).keep K110 (ninS (Nat.ne_of_lt lt_a2_a9) nin0)).keep K112 (ninS (Nat.ne_of_lt lt_a2_a9) nin0))
    refine own_new X112 hx hZ hown (ow_27 hw) (ow_28 hw) (ow_29 hw) rfl (hb hby at_256) (pc' := 259) rfl (by decide) (by decide) ?_
    intro T114 h114 a114 g114 X114 e114 E114 A114 D114
    have lt_a2_a114 : a2 < a114 := by rw [g114]; exact f116.lt
    have lt_a9_a114 : a9 < a114 := by rw [g114]; exact p112_0.lt
    have ge_a114 : n0 ≤ a114 := by rw [g114]; exact z115
    have F114_key0 : Fld Z h114 a114 "com/example/structlane/structlane/header/SipHash" "key0" "J" (.long (0 : Int64)) := D114 (Or.inr (ow_37 hw)) (ty := .long) (by decide)
    have F114_key1 : Fld Z h114 a114 "com/example/structlane/structlane/header/SipHash" "key1" "J" (.long (0 : Int64)) := D114 (Or.inr (ow_39 hw)) (ty := .long) (by decide)
    refine own_dup X114 hx (hb hby at_259) rfl (pc' := 260) rfl ?_
    refine own_lloadN X114 hx (hb hby at_260) rfl (pc' := 261) rfl ?_
    refine own_lloadN X114 hx (hb hby at_261) rfl (pc' := 262) rfl ?_
    have z118 : n0 ≤ h114.size := (Nat.le_trans z115 E114.1)
    refine own_callC X114 hx hZ rfl hown (ow_30 hw) (ow_31 hw) (ow_29 hw) (ow_32 hw) (by decide) (rm_init l Z a0 hw a114 u0 u1 (.long (0 : Int64)) (.long (0 : Int64)) h114 n0 z118 A114 F114_key0 F114_key1 ge_a114) e114 (W := 1) (by decide) (by decide) opd__JJ_V rfl (rest := [(.ref a114)]) rfl (hb hby at_262) (Nat.le_of_eq rfl) (by rw [hml]; rfl) (by decide) (by decide) (pc' := 265) rfl ?_
    intro v117 T117 L117 X117 q117
    obtain ⟨rfl, Nq117, K117, p117_0, p117_1⟩ := q117
    have N117 := Fr.app N112 Nq117
    show own_G p e below s _ _ _ (T117.setTop (mkF m 265 #[vL u0, vS, vL u1, vS, vL u2, vS, vL u3, vS, vL u4, vS, vI u5, vI ln, vI stt, vI (stt + ln), vR a2, vR a9, vL ((own_le8 g2_7 (stt + ((3 : Int32) * (8 : Int32))) (ln % (8 : Int32))) ||| (ln.toInt64 <<< ((56 : Int32) &&& 0x3f).toInt64)), vS, vL (((((own_round (own_round (own_round ((own_comp ((own_le8 g2_7 (stt + ((3 : Int32) * (8 : Int32))) (ln % (8 : Int32))) ||| (ln.toInt64 <<< ((56 : Int32) &&& 0x3f).toInt64)) (own_comp (own_le8 g2_7 (stt + (16 : Int32)) (8 : Int32)) (own_comp (own_le8 g2_7 (stt + (8 : Int32)) (8 : Int32)) (own_comp (own_le8 g2_7 stt (8 : Int32)) ((u0 ^^^ (8317987319222330741 : Int64)), (u1 ^^^ (7237128888997146477 : Int64)), (u0 ^^^ (7816392313619706465 : Int64)), (u1 ^^^ (8387220255154660723 : Int64))))))).1, (own_comp ((own_le8 g2_7 (stt + ((3 : Int32) * (8 : Int32))) (ln % (8 : Int32))) ||| (ln.toInt64 <<< ((56 : Int32) &&& 0x3f).toInt64)) (own_comp (own_le8 g2_7 (stt + (16 : Int32)) (8 : Int32)) (own_comp (own_le8 g2_7 (stt + (8 : Int32)) (8 : Int32)) (own_comp (own_le8 g2_7 stt (8 : Int32)) ((u0 ^^^ (8317987319222330741 : Int64)), (u1 ^^^ (7237128888997146477 : Int64)), (u0 ^^^ (7816392313619706465 : Int64)), (u1 ^^^ (8387220255154660723 : Int64))))))).2.1, (((own_comp ((own_le8 g2_7 (stt + ((3 : Int32) * (8 : Int32))) (ln % (8 : Int32))) ||| (ln.toInt64 <<< ((56 : Int32) &&& 0x3f).toInt64)) (own_comp (own_le8 g2_7 (stt + (16 : Int32)) (8 : Int32)) (own_comp (own_le8 g2_7 (stt + (8 : Int32)) (8 : Int32)) (own_comp (own_le8 g2_7 stt (8 : Int32)) ((u0 ^^^ (8317987319222330741 : Int64)), (u1 ^^^ (7237128888997146477 : Int64)), (u0 ^^^ (7816392313619706465 : Int64)), (u1 ^^^ (8387220255154660723 : Int64))))))).2.2.1) ^^^ (255 : Int64)), (own_comp ((own_le8 g2_7 (stt + ((3 : Int32) * (8 : Int32))) (ln % (8 : Int32))) ||| (ln.toInt64 <<< ((56 : Int32) &&& 0x3f).toInt64)) (own_comp (own_le8 g2_7 (stt + (16 : Int32)) (8 : Int32)) (own_comp (own_le8 g2_7 (stt + (8 : Int32)) (8 : Int32)) (own_comp (own_le8 g2_7 stt (8 : Int32)) ((u0 ^^^ (8317987319222330741 : Int64)), (u1 ^^^ (7237128888997146477 : Int64)), (u0 ^^^ (7816392313619706465 : Int64)), (u1 ^^^ (8387220255154660723 : Int64))))))).2.2.2)))).1) ^^^ ((own_round (own_round (own_round ((own_comp ((own_le8 g2_7 (stt + ((3 : Int32) * (8 : Int32))) (ln % (8 : Int32))) ||| (ln.toInt64 <<< ((56 : Int32) &&& 0x3f).toInt64)) (own_comp (own_le8 g2_7 (stt + (16 : Int32)) (8 : Int32)) (own_comp (own_le8 g2_7 (stt + (8 : Int32)) (8 : Int32)) (own_comp (own_le8 g2_7 stt (8 : Int32)) ((u0 ^^^ (8317987319222330741 : Int64)), (u1 ^^^ (7237128888997146477 : Int64)), (u0 ^^^ (7816392313619706465 : Int64)), (u1 ^^^ (8387220255154660723 : Int64))))))).1, (own_comp ((own_le8 g2_7 (stt + ((3 : Int32) * (8 : Int32))) (ln % (8 : Int32))) ||| (ln.toInt64 <<< ((56 : Int32) &&& 0x3f).toInt64)) (own_comp (own_le8 g2_7 (stt + (16 : Int32)) (8 : Int32)) (own_comp (own_le8 g2_7 (stt + (8 : Int32)) (8 : Int32)) (own_comp (own_le8 g2_7 stt (8 : Int32)) ((u0 ^^^ (8317987319222330741 : Int64)), (u1 ^^^ (7237128888997146477 : Int64)), (u0 ^^^ (7816392313619706465 : Int64)), (u1 ^^^ (8387220255154660723 : Int64))))))).2.1, (((own_comp ((own_le8 g2_7 (stt + ((3 : Int32) * (8 : Int32))) (ln % (8 : Int32))) ||| (ln.toInt64 <<< ((56 : Int32) &&& 0x3f).toInt64)) (own_comp (own_le8 g2_7 (stt + (16 : Int32)) (8 : Int32)) (own_comp (own_le8 g2_7 (stt + (8 : Int32)) (8 : Int32)) (own_comp (own_le8 g2_7 stt (8 : Int32)) ((u0 ^^^ (8317987319222330741 : Int64)), (u1 ^^^ (7237128888997146477 : Int64)), (u0 ^^^ (7816392313619706465 : Int64)), (u1 ^^^ (8387220255154660723 : Int64))))))).2.2.1) ^^^ (255 : Int64)), (own_comp ((own_le8 g2_7 (stt + ((3 : Int32) * (8 : Int32))) (ln % (8 : Int32))) ||| (ln.toInt64 <<< ((56 : Int32) &&& 0x3f).toInt64)) (own_comp (own_le8 g2_7 (stt + (16 : Int32)) (8 : Int32)) (own_comp (own_le8 g2_7 (stt + (8 : Int32)) (8 : Int32)) (own_comp (own_le8 g2_7 stt (8 : Int32)) ((u0 ^^^ (8317987319222330741 : Int64)), (u1 ^^^ (7237128888997146477 : Int64)), (u0 ^^^ (7816392313619706465 : Int64)), (u1 ^^^ (8387220255154660723 : Int64))))))).2.2.2)))).2.1)) ^^^ ((own_round (own_round (own_round ((own_comp ((own_le8 g2_7 (stt + ((3 : Int32) * (8 : Int32))) (ln % (8 : Int32))) ||| (ln.toInt64 <<< ((56 : Int32) &&& 0x3f).toInt64)) (own_comp (own_le8 g2_7 (stt + (16 : Int32)) (8 : Int32)) (own_comp (own_le8 g2_7 (stt + (8 : Int32)) (8 : Int32)) (own_comp (own_le8 g2_7 stt (8 : Int32)) ((u0 ^^^ (8317987319222330741 : Int64)), (u1 ^^^ (7237128888997146477 : Int64)), (u0 ^^^ (7816392313619706465 : Int64)), (u1 ^^^ (8387220255154660723 : Int64))))))).1, (own_comp ((own_le8 g2_7 (stt + ((3 : Int32) * (8 : Int32))) (ln % (8 : Int32))) ||| (ln.toInt64 <<< ((56 : Int32) &&& 0x3f).toInt64)) (own_comp (own_le8 g2_7 (stt + (16 : Int32)) (8 : Int32)) (own_comp (own_le8 g2_7 (stt + (8 : Int32)) (8 : Int32)) (own_comp (own_le8 g2_7 stt (8 : Int32)) ((u0 ^^^ (8317987319222330741 : Int64)), (u1 ^^^ (7237128888997146477 : Int64)), (u0 ^^^ (7816392313619706465 : Int64)), (u1 ^^^ (8387220255154660723 : Int64))))))).2.1, (((own_comp ((own_le8 g2_7 (stt + ((3 : Int32) * (8 : Int32))) (ln % (8 : Int32))) ||| (ln.toInt64 <<< ((56 : Int32) &&& 0x3f).toInt64)) (own_comp (own_le8 g2_7 (stt + (16 : Int32)) (8 : Int32)) (own_comp (own_le8 g2_7 (stt + (8 : Int32)) (8 : Int32)) (own_comp (own_le8 g2_7 stt (8 : Int32)) ((u0 ^^^ (8317987319222330741 : Int64)), (u1 ^^^ (7237128888997146477 : Int64)), (u0 ^^^ (7816392313619706465 : Int64)), (u1 ^^^ (8387220255154660723 : Int64))))))).2.2.1) ^^^ (255 : Int64)), (own_comp ((own_le8 g2_7 (stt + ((3 : Int32) * (8 : Int32))) (ln % (8 : Int32))) ||| (ln.toInt64 <<< ((56 : Int32) &&& 0x3f).toInt64)) (own_comp (own_le8 g2_7 (stt + (16 : Int32)) (8 : Int32)) (own_comp (own_le8 g2_7 (stt + (8 : Int32)) (8 : Int32)) (own_comp (own_le8 g2_7 stt (8 : Int32)) ((u0 ^^^ (8317987319222330741 : Int64)), (u1 ^^^ (7237128888997146477 : Int64)), (u0 ^^^ (7816392313619706465 : Int64)), (u1 ^^^ (8387220255154660723 : Int64))))))).2.2.2)))).2.2.1)) ^^^ ((own_round (own_round (own_round ((own_comp ((own_le8 g2_7 (stt + ((3 : Int32) * (8 : Int32))) (ln % (8 : Int32))) ||| (ln.toInt64 <<< ((56 : Int32) &&& 0x3f).toInt64)) (own_comp (own_le8 g2_7 (stt + (16 : Int32)) (8 : Int32)) (own_comp (own_le8 g2_7 (stt + (8 : Int32)) (8 : Int32)) (own_comp (own_le8 g2_7 stt (8 : Int32)) ((u0 ^^^ (8317987319222330741 : Int64)), (u1 ^^^ (7237128888997146477 : Int64)), (u0 ^^^ (7816392313619706465 : Int64)), (u1 ^^^ (8387220255154660723 : Int64))))))).1, (own_comp ((own_le8 g2_7 (stt + ((3 : Int32) * (8 : Int32))) (ln % (8 : Int32))) ||| (ln.toInt64 <<< ((56 : Int32) &&& 0x3f).toInt64)) (own_comp (own_le8 g2_7 (stt + (16 : Int32)) (8 : Int32)) (own_comp (own_le8 g2_7 (stt + (8 : Int32)) (8 : Int32)) (own_comp (own_le8 g2_7 stt (8 : Int32)) ((u0 ^^^ (8317987319222330741 : Int64)), (u1 ^^^ (7237128888997146477 : Int64)), (u0 ^^^ (7816392313619706465 : Int64)), (u1 ^^^ (8387220255154660723 : Int64))))))).2.1, (((own_comp ((own_le8 g2_7 (stt + ((3 : Int32) * (8 : Int32))) (ln % (8 : Int32))) ||| (ln.toInt64 <<< ((56 : Int32) &&& 0x3f).toInt64)) (own_comp (own_le8 g2_7 (stt + (16 : Int32)) (8 : Int32)) (own_comp (own_le8 g2_7 (stt + (8 : Int32)) (8 : Int32)) (own_comp (own_le8 g2_7 stt (8 : Int32)) ((u0 ^^^ (8317987319222330741 : Int64)), (u1 ^^^ (7237128888997146477 : Int64)), (u0 ^^^ (7816392313619706465 : Int64)), (u1 ^^^ (8387220255154660723 : Int64))))))).2.2.1) ^^^ (255 : Int64)), (own_comp ((own_le8 g2_7 (stt + ((3 : Int32) * (8 : Int32))) (ln % (8 : Int32))) ||| (ln.toInt64 <<< ((56 : Int32) &&& 0x3f).toInt64)) (own_comp (own_le8 g2_7 (stt + (16 : Int32)) (8 : Int32)) (own_comp (own_le8 g2_7 (stt + (8 : Int32)) (8 : Int32)) (own_comp (own_le8 g2_7 stt (8 : Int32)) ((u0 ^^^ (8317987319222330741 : Int64)), (u1 ^^^ (7237128888997146477 : Int64)), (u0 ^^^ (7816392313619706465 : Int64)), (u1 ^^^ (8387220255154660723 : Int64))))))).2.2.2)))).2.2.2)), vS, vU, vU] [(.ref a114)]))
    refine own_aload X117 hx (hb hby at_265) rfl rfl (pc' := 267) rfl ?_
    refine own_iload X117 hx (hb hby at_267) rfl (pc' := 269) rfl ?_
    refine own_iload X117 hx (hb hby at_269) rfl (pc' := 271) rfl ?_
    have f120 : own_AI Z T117.heap a2 .byte (24 : Int32) g2_7 := ((f116.ext E114).keep K117 (ninS (Nat.ne_of_lt lt_a2_a114) nin0))
    have z121 : n0 ≤ T117.heap.size := (Nat.le_trans z118 K117.1)
    have f122 : Exa Z T117.heap a114 "com/example/structlane/structlane/header/SipHash" := (A114.keep K117)
    refine own_callV X117 hx hZ hown (ow_40 hw) (ow_41 hw) (ow_43 hw) (ow_42 hw) (ow_29 hw) (ow_44 hw) (by decide) f122 (rm_hash3 l Z a0 hw a114 a2 stt (stt + ln) u0 u1 g2_7 T117.heap n0 z121 p117_0 p117_1 f120 hS.1 (by have q := own_addk stt ln (by omega) (by omega); omega) (by rw [own_canc]; exact c18)) rfl (W := 0) (by decide) (by decide) opd___BII_J rfl (rest := []) rfl (hb hby at_271) (Nat.le_of_eq rfl) (by rw [hml]; rfl) (by decide) (by decide) (pc' := 274) rfl ?_
    intro v119 T119 L119 X119 q119
    obtain ⟨rfl, Nq119, eh119⟩ := q119
    have N119 := Fr.app N117 Nq119
    show own_G p e below s _ _ _ (T119.setTop (mkF m 274 #[vL u0, vS, vL u1, vS, vL u2, vS, vL u3, vS, vL u4, vS, vI u5, vI ln, vI stt, vI (stt + ln), vR a2, vR a9, vL ((own_le8 g2_7 (stt + ((3 : Int32) * (8 : Int32))) (ln % (8 : Int32))) ||| (ln.toInt64 <<< ((56 : Int32) &&& 0x3f).toInt64)), vS, vL (((((own_round (own_round (own_round ((own_comp ((own_le8 g2_7 (stt + ((3 : Int32) * (8 : Int32))) (ln % (8 : Int32))) ||| (ln.toInt64 <<< ((56 : Int32) &&& 0x3f).toInt64)) (own_comp (own_le8 g2_7 (stt + (16 : Int32)) (8 : Int32)) (own_comp (own_le8 g2_7 (stt + (8 : Int32)) (8 : Int32)) (own_comp (own_le8 g2_7 stt (8 : Int32)) ((u0 ^^^ (8317987319222330741 : Int64)), (u1 ^^^ (7237128888997146477 : Int64)), (u0 ^^^ (7816392313619706465 : Int64)), (u1 ^^^ (8387220255154660723 : Int64))))))).1, (own_comp ((own_le8 g2_7 (stt + ((3 : Int32) * (8 : Int32))) (ln % (8 : Int32))) ||| (ln.toInt64 <<< ((56 : Int32) &&& 0x3f).toInt64)) (own_comp (own_le8 g2_7 (stt + (16 : Int32)) (8 : Int32)) (own_comp (own_le8 g2_7 (stt + (8 : Int32)) (8 : Int32)) (own_comp (own_le8 g2_7 stt (8 : Int32)) ((u0 ^^^ (8317987319222330741 : Int64)), (u1 ^^^ (7237128888997146477 : Int64)), (u0 ^^^ (7816392313619706465 : Int64)), (u1 ^^^ (8387220255154660723 : Int64))))))).2.1, (((own_comp ((own_le8 g2_7 (stt + ((3 : Int32) * (8 : Int32))) (ln % (8 : Int32))) ||| (ln.toInt64 <<< ((56 : Int32) &&& 0x3f).toInt64)) (own_comp (own_le8 g2_7 (stt + (16 : Int32)) (8 : Int32)) (own_comp (own_le8 g2_7 (stt + (8 : Int32)) (8 : Int32)) (own_comp (own_le8 g2_7 stt (8 : Int32)) ((u0 ^^^ (8317987319222330741 : Int64)), (u1 ^^^ (7237128888997146477 : Int64)), (u0 ^^^ (7816392313619706465 : Int64)), (u1 ^^^ (8387220255154660723 : Int64))))))).2.2.1) ^^^ (255 : Int64)), (own_comp ((own_le8 g2_7 (stt + ((3 : Int32) * (8 : Int32))) (ln % (8 : Int32))) ||| (ln.toInt64 <<< ((56 : Int32) &&& 0x3f).toInt64)) (own_comp (own_le8 g2_7 (stt + (16 : Int32)) (8 : Int32)) (own_comp (own_le8 g2_7 (stt + (8 : Int32)) (8 : Int32)) (own_comp (own_le8 g2_7 stt (8 : Int32)) ((u0 ^^^ (8317987319222330741 : Int64)), (u1 ^^^ (7237128888997146477 : Int64)), (u0 ^^^ (7816392313619706465 : Int64)), (u1 ^^^ (8387220255154660723 : Int64))))))).2.2.2)))).1) ^^^ ((own_round (own_round (own_round ((own_comp ((own_le8 g2_7 (stt + ((3 : Int32) * (8 : Int32))) (ln % (8 : Int32))) ||| (ln.toInt64 <<< ((56 : Int32) &&& 0x3f).toInt64)) (own_comp (own_le8 g2_7 (stt + (16 : Int32)) (8 : Int32)) (own_comp (own_le8 g2_7 (stt + (8 : Int32)) (8 : Int32)) (own_comp (own_le8 g2_7 stt (8 : Int32)) ((u0 ^^^ (8317987319222330741 : Int64)), (u1 ^^^ (7237128888997146477 : Int64)), (u0 ^^^ (7816392313619706465 : Int64)), (u1 ^^^ (8387220255154660723 : Int64))))))).1, (own_comp ((own_le8 g2_7 (stt + ((3 : Int32) * (8 : Int32))) (ln % (8 : Int32))) ||| (ln.toInt64 <<< ((56 : Int32) &&& 0x3f).toInt64)) (own_comp (own_le8 g2_7 (stt + (16 : Int32)) (8 : Int32)) (own_comp (own_le8 g2_7 (stt + (8 : Int32)) (8 : Int32)) (own_comp (own_le8 g2_7 stt (8 : Int32)) ((u0 ^^^ (8317987319222330741 : Int64)), (u1 ^^^ (7237128888997146477 : Int64)), (u0 ^^^ (7816392313619706465 : Int64)), (u1 ^^^ (8387220255154660723 : Int64))))))).2.1, (((own_comp ((own_le8 g2_7 (stt + ((3 : Int32) * (8 : Int32))) (ln % (8 : Int32))) ||| (ln.toInt64 <<< ((56 : Int32) &&& 0x3f).toInt64)) (own_comp (own_le8 g2_7 (stt + (16 : Int32)) (8 : Int32)) (own_comp (own_le8 g2_7 (stt + (8 : Int32)) (8 : Int32)) (own_comp (own_le8 g2_7 stt (8 : Int32)) ((u0 ^^^ (8317987319222330741 : Int64)), (u1 ^^^ (7237128888997146477 : Int64)), (u0 ^^^ (7816392313619706465 : Int64)), (u1 ^^^ (8387220255154660723 : Int64))))))).2.2.1) ^^^ (255 : Int64)), (own_comp ((own_le8 g2_7 (stt + ((3 : Int32) * (8 : Int32))) (ln % (8 : Int32))) ||| (ln.toInt64 <<< ((56 : Int32) &&& 0x3f).toInt64)) (own_comp (own_le8 g2_7 (stt + (16 : Int32)) (8 : Int32)) (own_comp (own_le8 g2_7 (stt + (8 : Int32)) (8 : Int32)) (own_comp (own_le8 g2_7 stt (8 : Int32)) ((u0 ^^^ (8317987319222330741 : Int64)), (u1 ^^^ (7237128888997146477 : Int64)), (u0 ^^^ (7816392313619706465 : Int64)), (u1 ^^^ (8387220255154660723 : Int64))))))).2.2.2)))).2.1)) ^^^ ((own_round (own_round (own_round ((own_comp ((own_le8 g2_7 (stt + ((3 : Int32) * (8 : Int32))) (ln % (8 : Int32))) ||| (ln.toInt64 <<< ((56 : Int32) &&& 0x3f).toInt64)) (own_comp (own_le8 g2_7 (stt + (16 : Int32)) (8 : Int32)) (own_comp (own_le8 g2_7 (stt + (8 : Int32)) (8 : Int32)) (own_comp (own_le8 g2_7 stt (8 : Int32)) ((u0 ^^^ (8317987319222330741 : Int64)), (u1 ^^^ (7237128888997146477 : Int64)), (u0 ^^^ (7816392313619706465 : Int64)), (u1 ^^^ (8387220255154660723 : Int64))))))).1, (own_comp ((own_le8 g2_7 (stt + ((3 : Int32) * (8 : Int32))) (ln % (8 : Int32))) ||| (ln.toInt64 <<< ((56 : Int32) &&& 0x3f).toInt64)) (own_comp (own_le8 g2_7 (stt + (16 : Int32)) (8 : Int32)) (own_comp (own_le8 g2_7 (stt + (8 : Int32)) (8 : Int32)) (own_comp (own_le8 g2_7 stt (8 : Int32)) ((u0 ^^^ (8317987319222330741 : Int64)), (u1 ^^^ (7237128888997146477 : Int64)), (u0 ^^^ (7816392313619706465 : Int64)), (u1 ^^^ (8387220255154660723 : Int64))))))).2.1, (((own_comp ((own_le8 g2_7 (stt + ((3 : Int32) * (8 : Int32))) (ln % (8 : Int32))) ||| (ln.toInt64 <<< ((56 : Int32) &&& 0x3f).toInt64)) (own_comp (own_le8 g2_7 (stt + (16 : Int32)) (8 : Int32)) (own_comp (own_le8 g2_7 (stt + (8 : Int32)) (8 : Int32)) (own_comp (own_le8 g2_7 stt (8 : Int32)) ((u0 ^^^ (8317987319222330741 : Int64)), (u1 ^^^ (7237128888997146477 : Int64)), (u0 ^^^ (7816392313619706465 : Int64)), (u1 ^^^ (8387220255154660723 : Int64))))))).2.2.1) ^^^ (255 : Int64)), (own_comp ((own_le8 g2_7 (stt + ((3 : Int32) * (8 : Int32))) (ln % (8 : Int32))) ||| (ln.toInt64 <<< ((56 : Int32) &&& 0x3f).toInt64)) (own_comp (own_le8 g2_7 (stt + (16 : Int32)) (8 : Int32)) (own_comp (own_le8 g2_7 (stt + (8 : Int32)) (8 : Int32)) (own_comp (own_le8 g2_7 stt (8 : Int32)) ((u0 ^^^ (8317987319222330741 : Int64)), (u1 ^^^ (7237128888997146477 : Int64)), (u0 ^^^ (7816392313619706465 : Int64)), (u1 ^^^ (8387220255154660723 : Int64))))))).2.2.2)))).2.2.1)) ^^^ ((own_round (own_round (own_round ((own_comp ((own_le8 g2_7 (stt + ((3 : Int32) * (8 : Int32))) (ln % (8 : Int32))) ||| (ln.toInt64 <<< ((56 : Int32) &&& 0x3f).toInt64)) (own_comp (own_le8 g2_7 (stt + (16 : Int32)) (8 : Int32)) (own_comp (own_le8 g2_7 (stt + (8 : Int32)) (8 : Int32)) (own_comp (own_le8 g2_7 stt (8 : Int32)) ((u0 ^^^ (8317987319222330741 : Int64)), (u1 ^^^ (7237128888997146477 : Int64)), (u0 ^^^ (7816392313619706465 : Int64)), (u1 ^^^ (8387220255154660723 : Int64))))))).1, (own_comp ((own_le8 g2_7 (stt + ((3 : Int32) * (8 : Int32))) (ln % (8 : Int32))) ||| (ln.toInt64 <<< ((56 : Int32) &&& 0x3f).toInt64)) (own_comp (own_le8 g2_7 (stt + (16 : Int32)) (8 : Int32)) (own_comp (own_le8 g2_7 (stt + (8 : Int32)) (8 : Int32)) (own_comp (own_le8 g2_7 stt (8 : Int32)) ((u0 ^^^ (8317987319222330741 : Int64)), (u1 ^^^ (7237128888997146477 : Int64)), (u0 ^^^ (7816392313619706465 : Int64)), (u1 ^^^ (8387220255154660723 : Int64))))))).2.1, (((own_comp ((own_le8 g2_7 (stt + ((3 : Int32) * (8 : Int32))) (ln % (8 : Int32))) ||| (ln.toInt64 <<< ((56 : Int32) &&& 0x3f).toInt64)) (own_comp (own_le8 g2_7 (stt + (16 : Int32)) (8 : Int32)) (own_comp (own_le8 g2_7 (stt + (8 : Int32)) (8 : Int32)) (own_comp (own_le8 g2_7 stt (8 : Int32)) ((u0 ^^^ (8317987319222330741 : Int64)), (u1 ^^^ (7237128888997146477 : Int64)), (u0 ^^^ (7816392313619706465 : Int64)), (u1 ^^^ (8387220255154660723 : Int64))))))).2.2.1) ^^^ (255 : Int64)), (own_comp ((own_le8 g2_7 (stt + ((3 : Int32) * (8 : Int32))) (ln % (8 : Int32))) ||| (ln.toInt64 <<< ((56 : Int32) &&& 0x3f).toInt64)) (own_comp (own_le8 g2_7 (stt + (16 : Int32)) (8 : Int32)) (own_comp (own_le8 g2_7 (stt + (8 : Int32)) (8 : Int32)) (own_comp (own_le8 g2_7 stt (8 : Int32)) ((u0 ^^^ (8317987319222330741 : Int64)), (u1 ^^^ (7237128888997146477 : Int64)), (u0 ^^^ (7816392313619706465 : Int64)), (u1 ^^^ (8387220255154660723 : Int64))))))).2.2.2)))).2.2.2)), vS, vU, vU] [(.long (own_x4 (own_comp (0 : Int64) (own_comp (0 : Int64) (own_comp (0 : Int64) (own_ff (own_comp ((own_le8 g2_7 (stt + ((3 : Int32) * (8 : Int32))) ((stt + ln) - (stt + ((3 : Int32) * (8 : Int32))))) ||| (((stt + ln) - stt).toInt64 <<< ((56 : Int32) &&& 0x3f).toInt64)) (own_comp (own_le8 g2_7 (stt + ((2 : Int32) * (8 : Int32))) (8 : Int32)) (own_comp (own_le8 g2_7 (stt + ((1 : Int32) * (8 : Int32))) (8 : Int32)) (own_comp (own_le8 g2_7 (stt + ((0 : Int32) * (8 : Int32))) (8 : Int32)) ((u0 ^^^ (8317987319222330741 : Int64)), (u1 ^^^ (7237128888997146477 : Int64)), (u0 ^^^ (7816392313619706465 : Int64)), (u1 ^^^ (8387220255154660723 : Int64)))))))))))))]))
    refine own_lstore X119 hx (hb hby at_274) (l' := #[vL u0, vS, vL u1, vS, vL u2, vS, vL u3, vS, vL u4, vS, vI u5, vI ln, vI stt, vI (stt + ln), vR a2, vR a9, vL ((own_le8 g2_7 (stt + ((3 : Int32) * (8 : Int32))) (ln % (8 : Int32))) ||| (ln.toInt64 <<< ((56 : Int32) &&& 0x3f).toInt64)), vS, vL (((((own_round (own_round (own_round ((own_comp ((own_le8 g2_7 (stt + ((3 : Int32) * (8 : Int32))) (ln % (8 : Int32))) ||| (ln.toInt64 <<< ((56 : Int32) &&& 0x3f).toInt64)) (own_comp (own_le8 g2_7 (stt + (16 : Int32)) (8 : Int32)) (own_comp (own_le8 g2_7 (stt + (8 : Int32)) (8 : Int32)) (own_comp (own_le8 g2_7 stt (8 : Int32)) ((u0 ^^^ (8317987319222330741 : Int64)), (u1 ^^^ (7237128888997146477 : Int64)), (u0 ^^^ (7816392313619706465 : Int64)), (u1 ^^^ (8387220255154660723 : Int64))))))).1, (own_comp ((own_le8 g2_7 (stt + ((3 : Int32) * (8 : Int32))) (ln % (8 : Int32))) ||| (ln.toInt64 <<< ((56 : Int32) &&& 0x3f).toInt64)) (own_comp (own_le8 g2_7 (stt + (16 : Int32)) (8 : Int32)) (own_comp (own_le8 g2_7 (stt + (8 : Int32)) (8 : Int32)) (own_comp (own_le8 g2_7 stt (8 : Int32)) ((u0 ^^^ (8317987319222330741 : Int64)), (u1 ^^^ (7237128888997146477 : Int64)), (u0 ^^^ (7816392313619706465 : Int64)), (u1 ^^^ (8387220255154660723 : Int64))))))).2.1, (((own_comp ((own_le8 g2_7 (stt + ((3 : Int32) * (8 : Int32))) (ln % (8 : Int32))) ||| (ln.toInt64 <<< ((56 : Int32) &&& 0x3f).toInt64)) (own_comp (own_le8 g2_7 (stt + (16 : Int32)) (8 : Int32)) (own_comp (own_le8 g2_7 (stt + (8 : Int32)) (8 : Int32)) (own_comp (own_le8 g2_7 stt (8 : Int32)) ((u0 ^^^ (8317987319222330741 : Int64)), (u1 ^^^ (7237128888997146477 : Int64)), (u0 ^^^ (7816392313619706465 : Int64)), (u1 ^^^ (8387220255154660723 : Int64))))))).2.2.1) ^^^ (255 : Int64)), (own_comp ((own_le8 g2_7 (stt + ((3 : Int32) * (8 : Int32))) (ln % (8 : Int32))) ||| (ln.toInt64 <<< ((56 : Int32) &&& 0x3f).toInt64)) (own_comp (own_le8 g2_7 (stt + (16 : Int32)) (8 : Int32)) (own_comp (own_le8 g2_7 (stt + (8 : Int32)) (8 : Int32)) (own_comp (own_le8 g2_7 stt (8 : Int32)) ((u0 ^^^ (8317987319222330741 : Int64)), (u1 ^^^ (7237128888997146477 : Int64)), (u0 ^^^ (7816392313619706465 : Int64)), (u1 ^^^ (8387220255154660723 : Int64))))))).2.2.2)))).1) ^^^ ((own_round (own_round (own_round ((own_comp ((own_le8 g2_7 (stt + ((3 : Int32) * (8 : Int32))) (ln % (8 : Int32))) ||| (ln.toInt64 <<< ((56 : Int32) &&& 0x3f).toInt64)) (own_comp (own_le8 g2_7 (stt + (16 : Int32)) (8 : Int32)) (own_comp (own_le8 g2_7 (stt + (8 : Int32)) (8 : Int32)) (own_comp (own_le8 g2_7 stt (8 : Int32)) ((u0 ^^^ (8317987319222330741 : Int64)), (u1 ^^^ (7237128888997146477 : Int64)), (u0 ^^^ (7816392313619706465 : Int64)), (u1 ^^^ (8387220255154660723 : Int64))))))).1, (own_comp ((own_le8 g2_7 (stt + ((3 : Int32) * (8 : Int32))) (ln % (8 : Int32))) ||| (ln.toInt64 <<< ((56 : Int32) &&& 0x3f).toInt64)) (own_comp (own_le8 g2_7 (stt + (16 : Int32)) (8 : Int32)) (own_comp (own_le8 g2_7 (stt + (8 : Int32)) (8 : Int32)) (own_comp (own_le8 g2_7 stt (8 : Int32)) ((u0 ^^^ (8317987319222330741 : Int64)), (u1 ^^^ (7237128888997146477 : Int64)), (u0 ^^^ (7816392313619706465 : Int64)), (u1 ^^^ (8387220255154660723 : Int64))))))).2.1, (((own_comp ((own_le8 g2_7 (stt + ((3 : Int32) * (8 : Int32))) (ln % (8 : Int32))) ||| (ln.toInt64 <<< ((56 : Int32) &&& 0x3f).toInt64)) (own_comp (own_le8 g2_7 (stt + (16 : Int32)) (8 : Int32)) (own_comp (own_le8 g2_7 (stt + (8 : Int32)) (8 : Int32)) (own_comp (own_le8 g2_7 stt (8 : Int32)) ((u0 ^^^ (8317987319222330741 : Int64)), (u1 ^^^ (7237128888997146477 : Int64)), (u0 ^^^ (7816392313619706465 : Int64)), (u1 ^^^ (8387220255154660723 : Int64))))))).2.2.1) ^^^ (255 : Int64)), (own_comp ((own_le8 g2_7 (stt + ((3 : Int32) * (8 : Int32))) (ln % (8 : Int32))) ||| (ln.toInt64 <<< ((56 : Int32) &&& 0x3f).toInt64)) (own_comp (own_le8 g2_7 (stt + (16 : Int32)) (8 : Int32)) (own_comp (own_le8 g2_7 (stt + (8 : Int32)) (8 : Int32)) (own_comp (own_le8 g2_7 stt (8 : Int32)) ((u0 ^^^ (8317987319222330741 : Int64)), (u1 ^^^ (7237128888997146477 : Int64)), (u0 ^^^ (7816392313619706465 : Int64)), (u1 ^^^ (8387220255154660723 : Int64))))))).2.2.2)))).2.1)) ^^^ ((own_round (own_round (own_round ((own_comp ((own_le8 g2_7 (stt + ((3 : Int32) * (8 : Int32))) (ln % (8 : Int32))) ||| (ln.toInt64 <<< ((56 : Int32) &&& 0x3f).toInt64)) (own_comp (own_le8 g2_7 (stt + (16 : Int32)) (8 : Int32)) (own_comp (own_le8 g2_7 (stt + (8 : Int32)) (8 : Int32)) (own_comp (own_le8 g2_7 stt (8 : Int32)) ((u0 ^^^ (8317987319222330741 : Int64)), (u1 ^^^ (7237128888997146477 : Int64)), (u0 ^^^ (7816392313619706465 : Int64)), (u1 ^^^ (8387220255154660723 : Int64))))))).1, (own_comp ((own_le8 g2_7 (stt + ((3 : Int32) * (8 : Int32))) (ln % (8 : Int32))) ||| (ln.toInt64 <<< ((56 : Int32) &&& 0x3f).toInt64)) (own_comp (own_le8 g2_7 (stt + (16 : Int32)) (8 : Int32)) (own_comp (own_le8 g2_7 (stt + (8 : Int32)) (8 : Int32)) (own_comp (own_le8 g2_7 stt (8 : Int32)) ((u0 ^^^ (8317987319222330741 : Int64)), (u1 ^^^ (7237128888997146477 : Int64)), (u0 ^^^ (7816392313619706465 : Int64)), (u1 ^^^ (8387220255154660723 : Int64))))))).2.1, (((own_comp ((own_le8 g2_7 (stt + ((3 : Int32) * (8 : Int32))) (ln % (8 : Int32))) ||| (ln.toInt64 <<< ((56 : Int32) &&& 0x3f).toInt64)) (own_comp (own_le8 g2_7 (stt + (16 : Int32)) (8 : Int32)) (own_comp (own_le8 g2_7 (stt + (8 : Int32)) (8 : Int32)) (own_comp (own_le8 g2_7 stt (8 : Int32)) ((u0 ^^^ (8317987319222330741 : Int64)), (u1 ^^^ (7237128888997146477 : Int64)), (u0 ^^^ (7816392313619706465 : Int64)), (u1 ^^^ (8387220255154660723 : Int64))))))).2.2.1) ^^^ (255 : Int64)), (own_comp ((own_le8 g2_7 (stt + ((3 : Int32) * (8 : Int32))) (ln % (8 : Int32))) ||| (ln.toInt64 <<< ((56 : Int32) &&& 0x3f).toInt64)) (own_comp (own_le8 g2_7 (stt + (16 : Int32)) (8 : Int32)) (own_comp (own_le8 g2_7 (stt + (8 : Int32)) (8 : Int32)) (own_comp (own_le8 g2_7 stt (8 : Int32)) ((u0 ^^^ (8317987319222330741 : Int64)), (u1 ^^^ (7237128888997146477 : Int64)), (u0 ^^^ (7816392313619706465 : Int64)), (u1 ^^^ (8387220255154660723 : Int64))))))).2.2.2)))).2.2.1)) ^^^ ((own_round (own_round (own_round ((own_comp ((own_le8 g2_7 (stt + ((3 : Int32) * (8 : Int32))) (ln % (8 : Int32))) ||| (ln.toInt64 <<< ((56 : Int32) &&& 0x3f).toInt64)) (own_comp (own_le8 g2_7 (stt + (16 : Int32)) (8 : Int32)) (own_comp (own_le8 g2_7 (stt + (8 : Int32)) (8 : Int32)) (own_comp (own_le8 g2_7 stt (8 : Int32)) ((u0 ^^^ (8317987319222330741 : Int64)), (u1 ^^^ (7237128888997146477 : Int64)), (u0 ^^^ (7816392313619706465 : Int64)), (u1 ^^^ (8387220255154660723 : Int64))))))).1, (own_comp ((own_le8 g2_7 (stt + ((3 : Int32) * (8 : Int32))) (ln % (8 : Int32))) ||| (ln.toInt64 <<< ((56 : Int32) &&& 0x3f).toInt64)) (own_comp (own_le8 g2_7 (stt + (16 : Int32)) (8 : Int32)) (own_comp (own_le8 g2_7 (stt + (8 : Int32)) (8 : Int32)) (own_comp (own_le8 g2_7 stt (8 : Int32)) ((u0 ^^^ (8317987319222330741 : Int64)), (u1 ^^^ (7237128888997146477 : Int64)), (u0 ^^^ (7816392313619706465 : Int64)), (u1 ^^^ (8387220255154660723 : Int64))))))).2.1, (((own_comp ((own_le8 g2_7 (stt + ((3 : Int32) * (8 : Int32))) (ln % (8 : Int32))) ||| (ln.toInt64 <<< ((56 : Int32) &&& 0x3f).toInt64)) (own_comp (own_le8 g2_7 (stt + (16 : Int32)) (8 : Int32)) (own_comp (own_le8 g2_7 (stt + (8 : Int32)) (8 : Int32)) (own_comp (own_le8 g2_7 stt (8 : Int32)) ((u0 ^^^ (8317987319222330741 : Int64)), (u1 ^^^ (7237128888997146477 : Int64)), (u0 ^^^ (7816392313619706465 : Int64)), (u1 ^^^ (8387220255154660723 : Int64))))))).2.2.1) ^^^ (255 : Int64)), (own_comp ((own_le8 g2_7 (stt + ((3 : Int32) * (8 : Int32))) (ln % (8 : Int32))) ||| (ln.toInt64 <<< ((56 : Int32) &&& 0x3f).toInt64)) (own_comp (own_le8 g2_7 (stt + (16 : Int32)) (8 : Int32)) (own_comp (own_le8 g2_7 (stt + (8 : Int32)) (8 : Int32)) (own_comp (own_le8 g2_7 stt (8 : Int32)) ((u0 ^^^ (8317987319222330741 : Int64)), (u1 ^^^ (7237128888997146477 : Int64)), (u0 ^^^ (7816392313619706465 : Int64)), (u1 ^^^ (8387220255154660723 : Int64))))))).2.2.2)))).2.2.2)), vS, vL (own_x4 (own_comp (0 : Int64) (own_comp (0 : Int64) (own_comp (0 : Int64) (own_ff (own_comp ((own_le8 g2_7 (stt + ((3 : Int32) * (8 : Int32))) ((stt + ln) - (stt + ((3 : Int32) * (8 : Int32))))) ||| (((stt + ln) - stt).toInt64 <<< ((56 : Int32) &&& 0x3f).toInt64)) (own_comp (own_le8 g2_7 (stt + ((2 : Int32) * (8 : Int32))) (8 : Int32)) (own_comp (own_le8 g2_7 (stt + ((1 : Int32) * (8 : Int32))) (8 : Int32)) (own_comp (own_le8 g2_7 (stt + ((0 : Int32) * (8 : Int32))) (8 : Int32)) ((u0 ^^^ (8317987319222330741 : Int64)), (u1 ^^^ (7237128888997146477 : Int64)), (u0 ^^^ (7816392313619706465 : Int64)), (u1 ^^^ (8387220255154660723 : Int64)))))))))))), vS]) rfl (pc' := 276) rfl ?_
    refine own_lload X119 hx (hb hby at_276) rfl (pc' := 278) rfl ?_
    refine own_lload X119 hx (hb hby at_278) rfl (pc' := 280) rfl ?_
    refine own_lcmp X119 hx (hb hby at_280) (pc' := 281) rfl ?_
    refine own_ifF X119 hx (hb hby at_281) (own_eqL (by rw [own_end, own_canc, (show (stt + ((0 : Int32) * (8 : Int32))) = stt from own_z stt), (show (stt + ((1 : Int32) * (8 : Int32))) = (stt + (8 : Int32)) from congrArg (stt + ·) (by decide)), (show (stt + ((2 : Int32) * (8 : Int32))) = (stt + (16 : Int32)) from congrArg (stt + ·) (by decide)), own_rem stt ln (3 : Int32) hS hL.1 (by decide) (by simp only [Int32.reduceToInt]; omega)]; rfl)).2 (pc' := 284) rfl ?_
    refine own_iconst X119 hx (hb hby at_284) (z := (1 : Int32)) rfl (pc' := 285) rfl ?_
    refine own_goto X119 hx (hb hby at_285) (by decide) (pc' := 289) rfl ?_
    exact own_retZ X119 hx hret hlk (Or.inr rfl) (hb hby at_289) ⟨rfl, N119⟩ (by decide) (by decide)
set_option maxRecDepth 65536 in
set_option maxHeartbeats 40000000 in
theorem comes_1 {Post : Tables → Env → Array Value → State → Outcome → State → Prop} (hpost : ∀ tb e args s v u, (limb_1_1.after args s (.returned v) u = true ∧ limb_1_2.after args s (.returned v) u = true ∧ True) → FrameEnd s (.returned v) u (Jvm.fieldLocs frame_1_writes args s ++ Jvm.arrayLocs frame_1_arrays args s ++ Jvm.staticLocs frame_1_statics s) 16 128 → Post tb e args s (.returned v) u) :
    ArmFor flags0 classFile x code maxLocals ret World_1 tables_1 room_1 Calls_1 rest_1 Pre_1 Post := by
  intro l hfl _ _ p e ha hc hk s m args below hf hA hF happ hP
  obtain ⟨hcalls, hrest, hpre⟩ := hP
  obtain ⟨-, -, -, hnamed, -, -, -, hat⟩ := (Spec.applies_iff hf).mp happ
  obtain ⟨hg, hn⟩ := and_e (Cond.before_iff.mp (show (Jvm.Cond.and given_1 narrow_1).before args s = true from hpre))
  obtain ⟨gc, gr0⟩ := and_e hg
  obtain ⟨gk0, gr1⟩ := and_e gr0
  obtain ⟨gk1, gr2⟩ := and_e gr1
  obtain ⟨gk2, gr3⟩ := and_e gr2
  obtain ⟨gk3, gr4⟩ := and_e gr3
  obtain ⟨gk4, gr5⟩ := and_e gr4
  obtain ⟨w0, w1, w2, w3, w4, w5, rfl⟩ : ∃ w0 w1 w2 w3 w4 w5 : Value, args = #[w0, w1, w2, w3, w4, w5] := by
    have hs : args.size = 6 := by simpa [Cond.value, given_1] using gc
    obtain ⟨L⟩ := args
    match L, hs with
    | [w0, w1, w2, w3, w4, w5], _ => exact ⟨w0, w1, w2, w3, w4, w5, rfl⟩
  have hw := fun d (hd : d ∈ tables_1) => atoms_spec (ws := Jvm.Cond.code x code maxLocals ret :: tables_1) hat d (List.mem_cons_of_mem _ hd)
  obtain ⟨i0, ei0⟩ := isL_v gk0
  obtain rfl : w0 = (.long i0) := Option.some.inj ei0
  obtain ⟨i1, ei1⟩ := isL_v gk1
  obtain rfl : w1 = (.long i1) := Option.some.inj ei1
  obtain ⟨i2, ei2⟩ := isL_v gk2
  obtain rfl : w2 = (.long i2) := Option.some.inj ei2
  obtain ⟨i3, ei3⟩ := isL_v gk3
  obtain rfl : w3 = (.long i3) := Option.some.inj ei3
  obtain ⟨i4, ei4⟩ := isL_v gk4
  obtain rfl : w4 = (.long i4) := Option.some.inj ei4
  obtain ⟨i5, ei5⟩ := is_v gr5
  obtain rfl : w5 = (.int i5) := Option.some.inj ei5
  obtain ⟨n, o, h1, h2, h3, _, L, rfl, ⟨rfl, N⟩, hq⟩ := own_law l s _ hw i0 i1 i2 i3 i4 i5 s.heap s.heap.size (Nat.le_refl _) p e ha hc hk s m _ below hf ((Spec.applies_iff_loose hf).mp happ).1 ⟨rfl, State.Warmed39.refl s, rfl⟩ trivial
  refine ⟨n, _, h1, h2, h3, hpost _ _ _ _ _ _ ⟨Cond.after_iff.mpr rfl, Cond.after_iff.mpr (eq_i res_at (Term.int_eval (1)) rfl), trivial⟩ ⟨hq.1, hq.2.1, (hq.2.2.sift fun y hy => Or.inr (N y hy)).mono (by decide) (by decide)⟩⟩
theorem main_1_1 : Claimed_1_1 := comes_1 fun _ _ _ _ _ _ h hF => ⟨h.1, hF⟩
theorem main_1_2 : Claimed_1_2 := comes_1 fun _ _ _ _ _ _ h hF => ⟨h.2.1, hF⟩
end Jvm.Pilot.@@N@@
namespace Jvm.Pilot.@@N@@
open Jvm Jvm.ClassFile Sem Op Lib Jvm.Free Jvm.Stand Jvm.Pilot.@@N@@.Jvm.D
/-! MADE BY PROGRAM (witnessworld.py) out of the Statement's table words and the real class files: 12 classes; the members and pool entries that the words name. The judged class is class 1, her method 1. -/
namespace start1
open Jvm.ClassFile
def u (s : String) : CpInfo := .utf8 (stringToUtf16 s)
/-- a pool by its gaps: so many unusable entries, then the entry; so many at the end -/
def gap : Nat → List CpInfo → List CpInfo
  | 0, r => r
  | n + 1, r => .unusable :: gap n r
def poolList (es : List (Nat × CpInfo)) (last : Nat) : List CpInfo := es.foldr (fun e r => gap e.1 (e.2 :: r)) (gap last [])
def pool (es : List (Nat × CpInfo)) (last : Nat) : Array CpInfo := ⟨poolList es last⟩
def fileOf (pool : Array CpInfo) (this : Nat) (attrs : Array Attribute := #[]) (ms : Array MethodInfo := #[]) (fl : Nat := 33) (sup : Nat := 0) (ifs : Array Nat := #[]) (fds : Array FieldInfo := #[]) : ClassFile where
  minorVersion := 0
  majorVersion := 65
  constantPool := pool
  accessFlags := fl
  thisClass := this
  superClass := sup
  interfaces := ifs
  fields := fds
  methods := ms
  attributes := attrs
def plain (name : String) (sup : Option ClassId) : Class where
  name := name
  kind := .ordinary
  loader := none
  accessFlags := 33
  super := sup
  interfaces := #[]
  cf := none
  fields := #[]
  methods := #[]
  instanceTypes := #[]
  staticTypes := #[]
  resolved := #[]
  callSites := []
  init := .initialized
  statics := none
  mirror := none

def pool0 : Array CpInfo := pool [(5, u "<init>"), (0, u "()V"), (1, .class_ 10), (1, u "java/lang/Object")] 113

def k0c0 : Code := { maxStack := 0, maxLocals := 1, code := object_method_1_code, exceptionTable := #[], attributes := #[] }
def k0m0 : Method := { name := "<init>", desc := "()V", sig := { parameters := [], returnType := none }, accessFlags := 1, code := some k0c0 }
/-- java/lang/Object -/
def k0 : Class := { plain "java/lang/Object" none with
  accessFlags := 33
  interfaces := #[]
  cf := some (fileOf pool0 8 #[] #[{ accessFlags := 1, nameIndex := 5, descriptorIndex := 6, attributes := #[] }] 33 0 #[] #[])
  fields := #[]
  methods := #[k0m0]
  instanceTypes := #[]
  staticTypes := #[]
  resolved := Array.replicate 124 none
  statics := none }

def pool1 : Array CpInfo := pool [(2, .class_ 4), (1, u "java/lang/Object"), (0, u "<init>"), (0, u "()V"), (0, .methodref 8 9), (0, .class_ 10), (0, .nameAndType 11 12), (0, u "java/lang/Math"), (0, u "min"), (0, u "(II)I"), (0, .methodref 14 15), (0, .class_ 16), (0, .nameAndType 17 18), (0, u "com/example/structlane/structlane/header/SipHashHashPinLaw"), (0, u "put"), (0, u "([BIJ)V"), (0, .long 8317987319222330741), (1, .long 7237128888997146477), (1, .long 7816392313619706465), (1, .long 8387220255154660723), (1, .methodref 14 28), (0, .nameAndType 29 30), (0, u "le8"), (0, u "([BII)J"), (0, .methodref 14 32), (0, .nameAndType 33 34), (0, u "compress"), (0, u "([JJ)V"), (0, .long 255), (1, .methodref 14 38), (0, .nameAndType 39 40), (0, u "round"), (0, u "([J)V"), (0, .class_ 42), (0, u "com/example/structlane/structlane/header/SipHash"), (0, .methodref 41 44), (0, .nameAndType 5 45), (0, u "(JJ)V"), (0, .methodref 41 47), (0, .nameAndType 48 30), (0, u "hash"), (0, .methodref 14 50), (0, .nameAndType 51 52), (0, u "rotl"), (0, u "(JI)J"), (2, u "law"), (0, u "(JJJJJI)Z")] 7

def k1m0 : Method := { name := "<init>", desc := "()V", sig := { parameters := [], returnType := none }, accessFlags := 1, code := none }
def k1c1 : Code := { maxStack := 6, maxLocals := 22, code := code, exceptionTable := #[], attributes := #[] }
def k1m1 : Method := { name := "law", desc := "(JJJJJI)Z", sig := { parameters := [.long, .long, .long, .long, .long, .int], returnType := some .boolean }, accessFlags := 9, code := some k1c1 }
def k1c2 : Code := { maxStack := 5, maxLocals := 4, code := method_3_code, exceptionTable := #[], attributes := #[] }
def k1m2 : Method := { name := "put", desc := "([BIJ)V", sig := { parameters := [(.array .byte), .int, .long], returnType := none }, accessFlags := 10, code := some k1c2 }
def k1c3 : Code := { maxStack := 5, maxLocals := 5, code := method_4_code, exceptionTable := #[], attributes := #[] }
def k1m3 : Method := { name := "le8", desc := "([BII)J", sig := { parameters := [(.array .byte), .int, .int], returnType := some .long }, accessFlags := 10, code := some k1c3 }
def k1c4 : Code := { maxStack := 6, maxLocals := 3, code := method_5_code, exceptionTable := #[], attributes := #[] }
def k1m4 : Method := { name := "rotl", desc := "(JI)J", sig := { parameters := [.long, .int], returnType := some .long }, accessFlags := 10, code := some k1c4 }
def k1c5 : Code := { maxStack := 6, maxLocals := 1, code := method_6_code, exceptionTable := #[], attributes := #[] }
def k1m5 : Method := { name := "round", desc := "([J)V", sig := { parameters := [(.array .long)], returnType := none }, accessFlags := 10, code := some k1c5 }
def k1c6 : Code := { maxStack := 6, maxLocals := 3, code := method_7_code, exceptionTable := #[], attributes := #[] }
def k1m6 : Method := { name := "compress", desc := "([JJ)V", sig := { parameters := [(.array .long), .long], returnType := none }, accessFlags := 10, code := some k1c6 }
/-- com/example/structlane/structlane/header/SipHashHashPinLaw -/
def k1 : Class := { plain "com/example/structlane/structlane/header/SipHashHashPinLaw" (some 0) with
  accessFlags := 49
  interfaces := #[]
  cf := some (fileOf pool1 14 #[] #[{ accessFlags := 1, nameIndex := 5, descriptorIndex := 6, attributes := #[] }, { accessFlags := 9, nameIndex := 55, descriptorIndex := 56, attributes := #[] }, { accessFlags := 10, nameIndex := 17, descriptorIndex := 18, attributes := #[] }, { accessFlags := 10, nameIndex := 29, descriptorIndex := 30, attributes := #[] }, { accessFlags := 10, nameIndex := 51, descriptorIndex := 52, attributes := #[] }, { accessFlags := 10, nameIndex := 39, descriptorIndex := 40, attributes := #[] }, { accessFlags := 10, nameIndex := 33, descriptorIndex := 34, attributes := #[] }] 49 2 #[] #[])
  fields := #[]
  methods := #[k1m0, k1m1, k1m2, k1m3, k1m4, k1m5, k1m6]
  instanceTypes := #[]
  staticTypes := #[]
  resolved := Array.replicate 64 none
  statics := none }

def pool2 : Array CpInfo := pool [(1, .class_ 2), (0, u "java/lang/Math"), (1, .class_ 6), (1, u "java/lang/Object"), (0, u "<init>"), (0, u "()V"), (89, .class_ 100), (1, u "java/lang/Math$RandomNumberGeneratorHolder"), (71, u "negativeZeroFloatBits"), (0, u "J"), (2, u "negativeZeroDoubleBits"), (24, u "min"), (43, u "$assertionsDisabled"), (0, u "Z"), (88, u "(II)I"), (2, u "twoToTheDoubleScaleDown"), (0, u "D"), (4, u "twoToTheDoubleScaleUp"), (9, u "E"), (3, u "PI"), (2, u "TAU"), (2, u "DEGREES_TO_RADIANS"), (0, u "RADIANS_TO_DEGREES")] 94

def k2m0 : Method := { name := "<init>", desc := "()V", sig := { parameters := [], returnType := none }, accessFlags := 2, code := none }
def k2c1 : Code := { maxStack := 2, maxLocals := 2, code := jdk_29_method_69_code, exceptionTable := #[], attributes := #[] }
def k2m1 : Method := { name := "min", desc := "(II)I", sig := { parameters := [.int, .int], returnType := some .int }, accessFlags := 9, code := some k2c1 }
/-- java/lang/Math -/
def k2 : Class := { plain "java/lang/Math" (some 0) with
  accessFlags := 49
  interfaces := #[]
  cf := some (fileOf pool2 1 #[.nestMembers #[98]] #[{ accessFlags := 2, nameIndex := 7, descriptorIndex := 8, attributes := #[] }, { accessFlags := 9, nameIndex := 201, descriptorIndex := 335, attributes := #[] }] 49 4 #[] #[{ accessFlags := 25, nameIndex := 354, descriptorIndex := 339, attributes := #[] }, { accessFlags := 25, nameIndex := 358, descriptorIndex := 339, attributes := #[] }, { accessFlags := 25, nameIndex := 361, descriptorIndex := 339, attributes := #[] }, { accessFlags := 26, nameIndex := 364, descriptorIndex := 339, attributes := #[] }, { accessFlags := 26, nameIndex := 365, descriptorIndex := 339, attributes := #[] }, { accessFlags := 26, nameIndex := 172, descriptorIndex := 173, attributes := #[] }, { accessFlags := 26, nameIndex := 176, descriptorIndex := 173, attributes := #[] }, { accessFlags := 8, nameIndex := 344, descriptorIndex := 339, attributes := #[] }, { accessFlags := 8, nameIndex := 338, descriptorIndex := 339, attributes := #[] }, { accessFlags := 4120, nameIndex := 245, descriptorIndex := 246, attributes := #[] }])
  fields := #[{ name := "E", type := .double, accessFlags := 25, slot := 0, constantValue := 0 }, { name := "PI", type := .double, accessFlags := 25, slot := 1, constantValue := 0 }, { name := "TAU", type := .double, accessFlags := 25, slot := 2, constantValue := 0 }, { name := "DEGREES_TO_RADIANS", type := .double, accessFlags := 26, slot := 3, constantValue := 0 }, { name := "RADIANS_TO_DEGREES", type := .double, accessFlags := 26, slot := 4, constantValue := 0 }, { name := "negativeZeroFloatBits", type := .long, accessFlags := 26, slot := 5, constantValue := 0 }, { name := "negativeZeroDoubleBits", type := .long, accessFlags := 26, slot := 6, constantValue := 0 }, { name := "twoToTheDoubleScaleUp", type := .double, accessFlags := 8, slot := 7, constantValue := 0 }, { name := "twoToTheDoubleScaleDown", type := .double, accessFlags := 8, slot := 8, constantValue := 0 }, { name := "$assertionsDisabled", type := .boolean, accessFlags := 4120, slot := 9, constantValue := 0 }]
  methods := #[k2m0, k2m1]
  instanceTypes := #[]
  staticTypes := #[.double, .double, .double, .double, .double, .long, .long, .double, .double, .boolean]
  resolved := Array.replicate 460 none
  statics := none }

def pool3 : Array CpInfo := pool [(1, .methodref 2 3), (0, .class_ 4), (0, .nameAndType 5 6), (0, u "java/lang/Object"), (0, u "<init>"), (0, u "()V"), (0, .fieldref 8 9), (0, .class_ 10), (0, .nameAndType 11 12), (0, u "com/example/structlane/structlane/header/SipHash"), (0, u "key0"), (0, u "J"), (0, .fieldref 8 14), (0, .nameAndType 15 12), (0, u "key1"), (12, u "(JJ)V"), (0, .long 8317987319222330741), (1, .long 7237128888997146477), (1, .long 7816392313619706465), (1, .long 8387220255154660723), (3, .long 255), (1, u "FINAL_ROUNDS"), (0, u "I"), (6, u "hash"), (0, u "([BII)J")] 5

def k3c0 : Code := { maxStack := 3, maxLocals := 5, code := prog_186_method_1_code, exceptionTable := #[], attributes := #[] }
def k3m0 : Method := { name := "<init>", desc := "(JJ)V", sig := { parameters := [.long, .long], returnType := none }, accessFlags := 0, code := some k3c0 }
def k3c1 : Code := { maxStack := 5, maxLocals := 20, code := prog_186_method_3_code, exceptionTable := #[], attributes := #[] }
def k3m1 : Method := { name := "hash", desc := "([BII)J", sig := { parameters := [(.array .byte), .int, .int], returnType := some .long }, accessFlags := 0, code := some k3c1 }
/-- com/example/structlane/structlane/header/SipHash -/
def k3 : Class := { plain "com/example/structlane/structlane/header/SipHash" (some 0) with
  accessFlags := 48
  interfaces := #[]
  cf := some (fileOf pool3 8 #[] #[{ accessFlags := 0, nameIndex := 5, descriptorIndex := 28, attributes := #[] }, { accessFlags := 0, nameIndex := 49, descriptorIndex := 50, attributes := #[] }] 48 2 #[] #[{ accessFlags := 26, nameIndex := 41, descriptorIndex := 42, attributes := #[] }, { accessFlags := 18, nameIndex := 11, descriptorIndex := 12, attributes := #[] }, { accessFlags := 18, nameIndex := 15, descriptorIndex := 12, attributes := #[] }])
  fields := #[{ name := "FINAL_ROUNDS", type := .int, accessFlags := 26, slot := 0, constantValue := 0 }, { name := "key0", type := .long, accessFlags := 18, slot := 0, constantValue := 0 }, { name := "key1", type := .long, accessFlags := 18, slot := 1, constantValue := 0 }]
  methods := #[k3m0, k3m1]
  instanceTypes := #[.long, .long]
  staticTypes := #[.int]
  resolved := Array.replicate 56 none
  statics := none }

def pool4 : Array CpInfo := pool [(1, u "java/lang/Cloneable"), (0, .class_ 1), (0, u "java/lang/Object"), (0, .class_ 3)] 3

/-- java/lang/Cloneable -/
def k4 : Class := { plain "java/lang/Cloneable" (some 0) with
  accessFlags := 1537
  interfaces := #[]
  cf := some (fileOf pool4 2 #[] #[] 1537 4 #[] #[])
  fields := #[]
  methods := #[]
  instanceTypes := #[]
  staticTypes := #[]
  resolved := Array.replicate 8 none
  statics := none }

def pool5 : Array CpInfo := pool [(1, u "java/io/Serializable"), (0, .class_ 1), (0, u "java/lang/Object"), (0, .class_ 3)] 3

/-- java/io/Serializable -/
def k5 : Class := { plain "java/io/Serializable" (some 0) with
  accessFlags := 1537
  interfaces := #[]
  cf := some (fileOf pool5 2 #[] #[] 1537 4 #[] #[])
  fields := #[]
  methods := #[]
  instanceTypes := #[]
  staticTypes := #[]
  resolved := Array.replicate 8 none
  statics := none }

/-- the primitive byte -/
def k6 : Class := { plain "byte" none with kind := .primitive 'B', accessFlags := 0x411 }
/-- [B -/
def k7 : Class := { plain "[B" (some 0) with kind := .array 6 .byte, interfaces := #[4, 5], accessFlags := 1041 }

/-- the primitive int -/
def k8 : Class := { plain "int" none with kind := .primitive 'I', accessFlags := 0x411 }
/-- [I -/
def k9 : Class := { plain "[I" (some 0) with kind := .array 8 .int, interfaces := #[4, 5], accessFlags := 1041 }

/-- the primitive long -/
def k10 : Class := { plain "long" none with kind := .primitive 'J', accessFlags := 0x411 }
/-- [J -/
def k11 : Class := { plain "[J" (some 0) with kind := .array 10 .long, interfaces := #[4, 5], accessFlags := 1041 }

def heap : Heap := #[]
def classes : Array Class := #[k0, k1, k2, k3, k4, k5, k6, k7, k8, k9, k10, k11]
def interned : List (Array UInt16 × Addr) := []
def slotsUsed : Nat := 0
def theMethod : MethodId := ⟨1, 1⟩
def args0 : Array Value := #[.long 5, .long 6, .long 7, .long 8, .long 9, .int 77]
def aboutOver (below : List Frame) : State where
  vm := { classes := classes, interned := interned.toArray }
  heap := heap
  slotsUsed := slotsUsed
  threads := #[{ frames := .invoking theMethod args0 :: below }]
def below0 : List Frame := [.native { method := ⟨0, 0⟩, args := #[] }]
def about1 : State := aboutOver below0
def p0 : Program := .bare "" "" ""
def e0 : Env := launch0.env 0 0 0
theorem w_frames : about1.frames = Frame.invoking theMethod args0 :: below0 := rfl
set_option maxRecDepth 65536 in
theorem w_args : argsFit about1.vm theMethod args0 = true := by decide +kernel
set_option maxRecDepth 65536 in
theorem w_heap : heapFits about1 = true := by decide +kernel
set_option maxRecDepth 65536 in
theorem w_runnable : about1.curStatus? = some .runnable := by decide +kernel
set_option maxRecDepth 65536 in
theorem w_alone : about1.alone = true := by decide +kernel
set_option maxRecDepth 65536 in
theorem w_named : about1.methodNamed? x = some theMethod := by decide +kernel
set_option maxRecDepth 65536 in
theorem w_hears : about1.hears theMethod below0 = true := by decide +kernel
set_option maxRecDepth 65536 in
theorem w_ripe : about1.ripe theMethod args0 below0 = true := by decide +kernel
theorem w_running : about1.status = .running := rfl
set_option maxRecDepth 65536 in
theorem w_room : about1.hasRoom e0.platform room_1 = true :=
  launch0.hasRoom_least _ room_1 (by decide +kernel) (by decide +kernel) (by decide +kernel) (by decide +kernel) (by decide +kernel) (by decide +kernel)
theorem allAtoms_all (ts : List Jvm.Cond) (a : Array Jvm.Value) (st : Jvm.State) : (allAtoms ts).before a st = ts.all (fun c => c.before a st) := by
  induction ts with
  | nil => rfl
  | cons c t ih =>
    show (Jvm.Cond.and c (allAtoms t)).before a st = _
    rw [Jvm.Cond.before_and, ih, List.all_cons]
def words1 : List Jvm.Cond := Jvm.Cond.code x code maxLocals ret :: tables_1
/-- a 'code' word, met by the world's own term for the bytes: nothing is compared byte by byte -/
theorem code_word {y : MethodName} {bytes : ByteArray} {mx : Nat} {rt : Option FieldType} {a : Array Value} {s : State} {m : MethodId} {meth : Method} {c : Code} (h1 : s.methodNamed? y = some m) (h2 : s.vm.method? m = some meth) (h3 : meth.code = some c) (h4 : c.code = bytes)
    (h5 : (c.maxLocals == mx && c.exceptionTable.isEmpty && decide (c.maxStack ≤ mostOperands) && decide (meth.sig.returnType = rt) && !meth.locks && decide (parseMethodDescriptor y.desc = some meth.sig)) = true) : (Jvm.Cond.code y bytes mx rt).before a s = true := by
  simp only [Bool.and_eq_true, beq_iff_eq, Bool.not_eq_true', decide_eq_true_eq] at h5
  obtain ⟨⟨⟨⟨⟨g1, g2⟩, g3⟩, g4⟩, g5⟩, g6⟩ := h5
  simp [Cond.before, Cond.holds, Cond.value, h1, h2, h3, h4, g1, g2, g3, g4, g5, g6]
def isCode : Jvm.Cond → Bool
  | .code _ _ _ _ => true
  | _ => false
theorem all_split {L : List Jvm.Cond} {P : Jvm.Cond → Bool} (h1 : L.all (fun c => isCode c || P c) = true) (h2 : ∀ c ∈ L.filter isCode, P c = true) : L.all P = true := by
  refine List.all_eq_true.mpr fun c hc => ?_
  have h := List.all_eq_true.mp h1 c hc
  rcases Bool.eq_false_or_eq_true (isCode c) with hi | hi
  · exact h2 c (List.mem_filter.mpr ⟨hc, hi⟩)
  · simpa [hi] using h
set_option maxRecDepth 65536 in
theorem w_c0 : (Jvm.Cond.code x code maxLocals ret).before args0 about1 = true := code_word (m := ⟨1, 1⟩) (meth := k1m1) (c := k1c1) (by decide +kernel) rfl rfl rfl (by decide +kernel)
set_option maxRecDepth 65536 in
theorem w_c1 : (Jvm.Cond.code ({ cls := "java/lang/Math", name := "min", desc := "(II)I" } : Jvm.MethodName) jdk_29_method_69_code (2 : Nat) (Option.some Jvm.ClassFile.FieldType.int)).before args0 about1 = true := code_word (m := ⟨2, 1⟩) (meth := k2m1) (c := k2c1) (by decide +kernel) rfl rfl rfl (by decide +kernel)
set_option maxRecDepth 65536 in
theorem w_c2 : (Jvm.Cond.code ({ cls := "com/example/structlane/structlane/header/SipHashHashPinLaw", name := "put", desc := "([BIJ)V" } : Jvm.MethodName) method_3_code (4 : Nat) (Option.none : Option Jvm.ClassFile.FieldType)).before args0 about1 = true := code_word (m := ⟨1, 2⟩) (meth := k1m2) (c := k1c2) (by decide +kernel) rfl rfl rfl (by decide +kernel)
set_option maxRecDepth 65536 in
theorem w_c3 : (Jvm.Cond.code ({ cls := "com/example/structlane/structlane/header/SipHashHashPinLaw", name := "le8", desc := "([BII)J" } : Jvm.MethodName) method_4_code (5 : Nat) (Option.some Jvm.ClassFile.FieldType.long)).before args0 about1 = true := code_word (m := ⟨1, 3⟩) (meth := k1m3) (c := k1c3) (by decide +kernel) rfl rfl rfl (by decide +kernel)
set_option maxRecDepth 65536 in
theorem w_c4 : (Jvm.Cond.code ({ cls := "com/example/structlane/structlane/header/SipHashHashPinLaw", name := "compress", desc := "([JJ)V" } : Jvm.MethodName) method_7_code (3 : Nat) (Option.none : Option Jvm.ClassFile.FieldType)).before args0 about1 = true := code_word (m := ⟨1, 6⟩) (meth := k1m6) (c := k1c6) (by decide +kernel) rfl rfl rfl (by decide +kernel)
set_option maxRecDepth 65536 in
theorem w_c5 : (Jvm.Cond.code ({ cls := "com/example/structlane/structlane/header/SipHashHashPinLaw", name := "round", desc := "([J)V" } : Jvm.MethodName) method_6_code (1 : Nat) (Option.none : Option Jvm.ClassFile.FieldType)).before args0 about1 = true := code_word (m := ⟨1, 5⟩) (meth := k1m5) (c := k1c5) (by decide +kernel) rfl rfl rfl (by decide +kernel)
set_option maxRecDepth 65536 in
theorem w_c6 : (Jvm.Cond.code ({ cls := "com/example/structlane/structlane/header/SipHashHashPinLaw", name := "rotl", desc := "(JI)J" } : Jvm.MethodName) method_5_code (3 : Nat) (Option.some Jvm.ClassFile.FieldType.long)).before args0 about1 = true := code_word (m := ⟨1, 4⟩) (meth := k1m4) (c := k1c4) (by decide +kernel) rfl rfl rfl (by decide +kernel)
set_option maxRecDepth 65536 in
theorem w_c7 : (Jvm.Cond.code ({ cls := "com/example/structlane/structlane/header/SipHash", name := "<init>", desc := "(JJ)V" } : Jvm.MethodName) prog_186_method_1_code (5 : Nat) (Option.none : Option Jvm.ClassFile.FieldType)).before args0 about1 = true := code_word (m := ⟨3, 0⟩) (meth := k3m0) (c := k3c0) (by decide +kernel) rfl rfl rfl (by decide +kernel)
set_option maxRecDepth 65536 in
theorem w_c8 : (Jvm.Cond.code ({ cls := "java/lang/Object", name := "<init>", desc := "()V" } : Jvm.MethodName) object_method_1_code (1 : Nat) (Option.none : Option Jvm.ClassFile.FieldType)).before args0 about1 = true := code_word (m := ⟨0, 0⟩) (meth := k0m0) (c := k0c0) (by decide +kernel) rfl rfl rfl (by decide +kernel)
set_option maxRecDepth 65536 in
theorem w_c9 : (Jvm.Cond.code ({ cls := "com/example/structlane/structlane/header/SipHash", name := "hash", desc := "([BII)J" } : Jvm.MethodName) prog_186_method_3_code (20 : Nat) (Option.some Jvm.ClassFile.FieldType.long)).before args0 about1 = true := code_word (m := ⟨3, 1⟩) (meth := k3m1) (c := k3c1) (by decide +kernel) rfl rfl rfl (by decide +kernel)
def codes1 : List Jvm.Cond := [Jvm.Cond.code x code maxLocals ret, Jvm.Cond.code ({ cls := "java/lang/Math", name := "min", desc := "(II)I" } : Jvm.MethodName) jdk_29_method_69_code (2 : Nat) (Option.some Jvm.ClassFile.FieldType.int), Jvm.Cond.code ({ cls := "com/example/structlane/structlane/header/SipHashHashPinLaw", name := "put", desc := "([BIJ)V" } : Jvm.MethodName) method_3_code (4 : Nat) (Option.none : Option Jvm.ClassFile.FieldType), Jvm.Cond.code ({ cls := "com/example/structlane/structlane/header/SipHashHashPinLaw", name := "le8", desc := "([BII)J" } : Jvm.MethodName) method_4_code (5 : Nat) (Option.some Jvm.ClassFile.FieldType.long), Jvm.Cond.code ({ cls := "com/example/structlane/structlane/header/SipHashHashPinLaw", name := "compress", desc := "([JJ)V" } : Jvm.MethodName) method_7_code (3 : Nat) (Option.none : Option Jvm.ClassFile.FieldType), Jvm.Cond.code ({ cls := "com/example/structlane/structlane/header/SipHashHashPinLaw", name := "round", desc := "([J)V" } : Jvm.MethodName) method_6_code (1 : Nat) (Option.none : Option Jvm.ClassFile.FieldType), Jvm.Cond.code ({ cls := "com/example/structlane/structlane/header/SipHashHashPinLaw", name := "rotl", desc := "(JI)J" } : Jvm.MethodName) method_5_code (3 : Nat) (Option.some Jvm.ClassFile.FieldType.long), Jvm.Cond.code ({ cls := "com/example/structlane/structlane/header/SipHash", name := "<init>", desc := "(JJ)V" } : Jvm.MethodName) prog_186_method_1_code (5 : Nat) (Option.none : Option Jvm.ClassFile.FieldType), Jvm.Cond.code ({ cls := "java/lang/Object", name := "<init>", desc := "()V" } : Jvm.MethodName) object_method_1_code (1 : Nat) (Option.none : Option Jvm.ClassFile.FieldType), Jvm.Cond.code ({ cls := "com/example/structlane/structlane/header/SipHash", name := "hash", desc := "([BII)J" } : Jvm.MethodName) prog_186_method_3_code (20 : Nat) (Option.some Jvm.ClassFile.FieldType.long)]
set_option maxRecDepth 65536 in
theorem codes_eq : words1.filter isCode = codes1 := rfl
theorem w_codes : ∀ c ∈ words1.filter isCode, c.before args0 about1 = true := by
  rw [codes_eq]
  intro c hc
  simp only [codes1, List.mem_cons, List.not_mem_nil, or_false] at hc
  rcases hc with rfl | rfl | rfl | rfl | rfl | rfl | rfl | rfl | rfl | rfl
  · exact w_c0
  · exact w_c1
  · exact w_c2
  · exact w_c3
  · exact w_c4
  · exact w_c5
  · exact w_c6
  · exact w_c7
  · exact w_c8
  · exact w_c9
set_option maxRecDepth 65536 in
theorem w_t1 : (words1.take 24).all (fun c => isCode c || c.before args0 about1) = true := by decide +kernel
set_option maxRecDepth 65536 in
theorem w_t2 : ((words1.drop 24).take 24).all (fun c => isCode c || c.before args0 about1) = true := by decide +kernel
set_option maxRecDepth 65536 in
theorem w_t3 : ((words1.drop 24).drop 24).all (fun c => isCode c || c.before args0 about1) = true := by decide +kernel
theorem w_tables : (allAtoms (Jvm.Cond.code x code maxLocals ret :: tables_1)).before args0 about1 = true := by
  rw [allAtoms_all]
  show words1.all (fun c => c.before args0 about1) = true
  refine all_split ?_ w_codes
  rw [← List.take_append_drop 24 words1, List.all_append, w_t1, ← List.take_append_drop 24 (words1.drop 24), List.all_append, w_t2, w_t3]
  rfl
set_option maxRecDepth 65536 in
theorem w_case : (Jvm.Cond.and given_1 narrow_1).before args0 about1 = true := by decide +kernel
theorem w_applies : (headSpec (Jvm.Cond.code x code maxLocals ret :: tables_1) room_1).applies x e0.platform about1 = true :=
  (Spec.applies_iff w_frames).mpr ⟨w_running, w_runnable, w_alone, w_named, w_hears, w_ripe, w_room, w_tables⟩
theorem atStart : AtStart classFile x code maxLocals ret World_1 tables_1 room_1 Calls_1 rest_1 Pre_1 launch0 p0 e0 about1 theMethod args0 below0 :=
  ⟨lists_1, trivial, launch0.admits_env _ _ _, launch0.least_env, fairChoices_fair.cas, fairChoices_fair.clock, w_frames, w_args, w_heap, w_applies, trivial, trivial, w_case⟩
end start1
theorem witness_1 : WitnessClaimed_1 := ⟨start1.p0, start1.e0, start1.about1, start1.theMethod, start1.args0, start1.below0, start1.atStart⟩
end Jvm.Pilot.@@N@@
