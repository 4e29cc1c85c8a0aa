import JvmDerived
import JvmDerived.Pilot.@@N@@Statement
import JvmDerived.Pilot.@@N@@Code
set_option linter.unusedVariables false
set_option linter.unusedSimpArgs false
namespace Jvm.Pilot.@@N@@
open Jvm Jvm.ClassFile Sem Op Lib Jvm.Free Jvm.Stand Jvm.LawKit Jvm.RoadKit Bundle Jvm.Pilot.@@N@@.Jvm.D
section OwnHead
variable {p : Program} {l : Launch} {e : Env} {R : Room} {s : State} {m : MethodId} {args : Array Value} {below : List Frame} {meth : Method} {c : Code} {T : State} {locs : List Loc} {cells slots : Nat} {Z : State} {a0 : Array Value} {h : Heap} {Q : Option Value → Heap → List Loc → Prop} {ce sl : Nat} {pc pc' : Nat} {Ls : Array Slot} {st : List Value}
def own_G (p : Program) (e : Env) (below : List Frame) (s : State) (Q : Option Value → Heap → List Loc → Prop) (ce sl : Nat) (S : State) : Prop := ∃ s₂ o, Steps p.tables e below S s₂ ∧ s₂.status = .running ∧ Ended s₂ below o ∧ ∃ v L, o = .returned v ∧ Q v s₂.heap L ∧ FrameEnd s o s₂ L ce sl
theorem own_fw {S S' : State} (h : ∀ t, Steps p.tables e below S' t → Steps p.tables e below S t) (g : own_G p e below s Q ce sl S') : own_G p e below s Q ce sl S := by
  obtain ⟨s₂, o, h1, r⟩ := g; exact ⟨s₂, o, h _ h1, r⟩
theorem own_via {S S' : State} (h : own_G p e below s Q ce sl S' → own_G p e below s Q ce sl S) (g : own_G p e below s Q ce sl S') : own_G p e below s Q ce sl S := h g
theorem own_cast {S S' : State} (h : S = S') (g : own_G p e below s Q ce sl S') : own_G p e below s Q ce sl S := h ▸ g
abbrev own_M (l : Launch) (Z : State) (y : MethodName) (bytes : ByteArray) (maxL : Nat) (ret : Option FieldType) (ws : List Jvm.Cond) (rm : Room) (as' : Array Value) (h0 : Heap) (Q : Option Value → Heap → List Loc → Prop) (ce sl : Nat) : Prop := MetFree l y (head1 (Jvm.Cond.code y bytes maxL ret :: ws) rm) (fun a U => a = as' ∧ Z.Warmed39 U.vm ∧ U.heap = h0) (fun _ _ _ _ _ => True) (fun _ U o U' => ∃ v L, o = .returned v ∧ Q v U'.heap L ∧ FrameEnd U o U' L ce sl)
theorem own_body {y : MethodName} {bytes : ByteArray} {maxL : Nat} {ret : Option FieldType} {ws : List Jvm.Cond} {rm : Room} {as' : Array Value} {h0 : Heap} (hp : plainFor y = true)
    (body : ∀ (p : Program) (e : Env) (s : State) (m : MethodId) (below : List Frame) (meth : Method) (c : Code) (s₁ : State), p.tables.exec = Jvm.exec → c.code = bytes → c.maxLocals = maxL → s.vm.findClass y.cls = some m.cls → meth.name = y.name → meth.sig.returnType = ret → meth.locks = false → Z.Warmed39 s.vm → Stand p l e rm s m as' below meth c s₁ [] 0 0 → s₁.heap = h0 → own_G p e below s Q ce sl (s₁.setTop (entryFrame m as' maxL))) : own_M l Z y bytes maxL ret ws rm as' h0 Q ce sl := by
  refine MetFree.of_bodySF hp hisR ?_
  intro p e s m args below meth c s₁ Bd hml hP hK
  obtain ⟨rfl, hZ, hh⟩ := hP
  exact body p e s m below meth c s₁ Bd.exec Bd.bytes hml (findClass_of_methodNamed Bd.named) (name_of_methodNamed Bd.named Bd.method).1 Bd.returns Bd.notSynchronized hZ (Stand.of_body Bd) (by rw [← hh, Bd.state]; rfl)
theorem own_ret (X : Stand p l e R s m args below meth c T locs cells slots) (hx : p.tables.exec = Jvm.exec) {w : Value} {t : FieldType} {i : Instr} (hret : meth.sig.returnType = some t) (hlk : meth.locks = false) (hn : narrow t w = w)
    (hi : (i = .ireturn ∧ (t = .int ∨ t = .boolean ∨ t = .byte ∨ t = .char ∨ t = .short) ∧ ∃ z, w = .int z) ∨ (i = .lreturn ∧ t = .long ∧ ∃ z, w = .long z) ∨ (i = .dreturn ∧ t = .double ∧ ∃ z, w = .double z) ∨ (i = .freturn ∧ t = .float ∧ ∃ z, w = .float z) ∨ (i = .areturn ∧ t.isReference = true ∧ w.isRef = true))
    (hd : decode c.code pc = .ok (i, 1)) (hQ : Q (some w) T.heap locs) (hce : cells ≤ ce) (hsl : slots ≤ sl) : own_G p e below s Q ce sl (T.setTop (mkF m pc Ls (w :: st))) := by
  obtain ⟨fs, hr, hrun, hended, hW, hsame⟩ := X.leave (v := some w) (fun h => by rw [hret] at h; cases h) hlk
  exact ⟨_, _, retOut X hx hret hn hi hd hr, hrun, hended, _, _, rfl, hQ, ⟨_, rfl⟩, hW, hsame.mono hce hsl⟩
theorem own_retI (X : Stand p l e R s m args below meth c T locs cells slots) (hx : p.tables.exec = Jvm.exec) {z : Int32} (hret : meth.sig.returnType = some .int) (hlk : meth.locks = false) (hd : decode c.code pc = .ok (.ireturn, 1)) (hQ : Q (some (.int z)) T.heap locs) (hce : cells ≤ ce) (hsl : slots ≤ sl) : own_G p e below s Q ce sl (T.setTop (mkF m pc Ls (.int z :: st))) := own_ret X hx hret hlk rfl (Or.inl ⟨rfl, Or.inl rfl, z, rfl⟩) hd hQ hce hsl
theorem own_retZ (X : Stand p l e R s m args below meth c T locs cells slots) (hx : p.tables.exec = Jvm.exec) {z : Int32} (hret : meth.sig.returnType = some .boolean) (hlk : meth.locks = false) (hz : z = 0 ∨ z = 1) (hd : decode c.code pc = .ok (.ireturn, 1)) (hQ : Q (some (.int z)) T.heap locs) (hce : cells ≤ ce) (hsl : slots ≤ sl) : own_G p e below s Q ce sl (T.setTop (mkF m pc Ls (.int z :: st))) := own_ret X hx hret hlk (by rcases hz with rfl | rfl <;> rfl) (Or.inl ⟨rfl, Or.inr (Or.inl rfl), z, rfl⟩) hd hQ hce hsl
theorem own_retB (X : Stand p l e R s m args below meth c T locs cells slots) (hx : p.tables.exec = Jvm.exec) {z : Int32} (hret : meth.sig.returnType = some .byte) (hlk : meth.locks = false) (hz : narrow .byte (.int z) = .int z) (hd : decode c.code pc = .ok (.ireturn, 1)) (hQ : Q (some (.int z)) T.heap locs) (hce : cells ≤ ce) (hsl : slots ≤ sl) : own_G p e below s Q ce sl (T.setTop (mkF m pc Ls (.int z :: st))) := own_ret X hx hret hlk hz (Or.inl ⟨rfl, Or.inr (Or.inr (Or.inl rfl)), z, rfl⟩) hd hQ hce hsl
theorem own_retL (X : Stand p l e R s m args below meth c T locs cells slots) (hx : p.tables.exec = Jvm.exec) {z : Int64} (hret : meth.sig.returnType = some .long) (hlk : meth.locks = false) (hd : decode c.code pc = .ok (.lreturn, 1)) (hQ : Q (some (.long z)) T.heap locs) (hce : cells ≤ ce) (hsl : slots ≤ sl) : own_G p e below s Q ce sl (T.setTop (mkF m pc Ls (.long z :: st))) := own_ret X hx hret hlk rfl (Or.inr (Or.inl ⟨rfl, rfl, z, rfl⟩)) hd hQ hce hsl
theorem own_retA (X : Stand p l e R s m args below meth c T locs cells slots) (hx : p.tables.exec = Jvm.exec) {v : Value} {t : FieldType} (hret : meth.sig.returnType = some t) (hlk : meth.locks = false) (ht : t.isReference = true) (hn : narrow t v = v) (hv : v.isRef = true) (hd : decode c.code pc = .ok (.areturn, 1)) (hQ : Q (some v) T.heap locs) (hce : cells ≤ ce) (hsl : slots ≤ sl) : own_G p e below s Q ce sl (T.setTop (mkF m pc Ls (v :: st))) := own_ret X hx hret hlk hn (Or.inr (Or.inr (Or.inr (Or.inr ⟨rfl, ht, hv⟩)))) hd hQ hce hsl
theorem own_retV (X : Stand p l e R s m args below meth c T locs cells slots) (hx : p.tables.exec = Jvm.exec) (hret : meth.sig.returnType = none) (hlk : meth.locks = false) (hd : decode c.code pc = .ok (.return_, 1)) (hQ : Q none T.heap locs) (hce : cells ≤ ce) (hsl : slots ≤ sl) : own_G p e below s Q ce sl (T.setTop (mkF m pc Ls [])) := by
  obtain ⟨fs, hr, hrun, hended, hW, hsame⟩ := X.leave (v := none) (fun _ => rfl) hlk
  exact ⟨_, _, X.returnOut hx hret hd hr, hrun, hended, _, _, rfl, hQ, ⟨_, rfl⟩, hW, hsame.mono hce hsl⟩
theorem own_iloadN {i : Fin 4} {v : Int32} (X : Stand p l e R s m args below meth c T locs cells slots) (hx : p.tables.exec = Jvm.exec) (hd : decode c.code pc = .ok (.iload_n i, 1)) (hl : Ls[i.val]? = some (.val (.int v))) (hp : pc + 1 = pc') (k : own_G p e below s Q ce sl (T.setTop (mkF m pc' Ls (.int v :: st)))) : own_G p e below s Q ce sl (T.setTop (mkF m pc Ls st)) := by
  subst hp; exact own_fw (fun t q => XS.iloadN X.here hx rfl hd hl q) k
theorem own_iload {i : Nat} {v : Int32} (X : Stand p l e R s m args below meth c T locs cells slots) (hx : p.tables.exec = Jvm.exec) (hd : decode c.code pc = .ok (.iload i, 2)) (hl : Ls[i]? = some (.val (.int v))) (hp : pc + 2 = pc') (k : own_G p e below s Q ce sl (T.setTop (mkF m pc' Ls (.int v :: st)))) : own_G p e below s Q ce sl (T.setTop (mkF m pc Ls st)) := by
  subst hp; exact own_fw (fun t q => XS.iload X.here hx rfl hd hl q) k
theorem own_lloadN {i : Fin 4} {v : Int64} (X : Stand p l e R s m args below meth c T locs cells slots) (hx : p.tables.exec = Jvm.exec) (hd : decode c.code pc = .ok (.lload_n i, 1)) (hl : Ls[i.val]? = some (.val (.long v))) (hp : pc + 1 = pc') (k : own_G p e below s Q ce sl (T.setTop (mkF m pc' Ls (.long v :: st)))) : own_G p e below s Q ce sl (T.setTop (mkF m pc Ls st)) := by
  subst hp; exact own_fw (fun t q => XS.lloadN X.here hx rfl hd hl q) k
theorem own_lload {i : Nat} {v : Int64} (X : Stand p l e R s m args below meth c T locs cells slots) (hx : p.tables.exec = Jvm.exec) (hd : decode c.code pc = .ok (.lload i, 2)) (hl : Ls[i]? = some (.val (.long v))) (hp : pc + 2 = pc') (k : own_G p e below s Q ce sl (T.setTop (mkF m pc' Ls (.long v :: st)))) : own_G p e below s Q ce sl (T.setTop (mkF m pc Ls st)) := by
  subst hp; exact own_fw (fun t q => XS.lload X.here hx rfl hd hl q) k
theorem own_aloadN {i : Fin 4} {v : Value} (X : Stand p l e R s m args below meth c T locs cells slots) (hx : p.tables.exec = Jvm.exec) (hd : decode c.code pc = .ok (.aload_n i, 1)) (hl : Ls[i.val]? = some (.val v)) (hv : v.isRef = true) (hp : pc + 1 = pc') (k : own_G p e below s Q ce sl (T.setTop (mkF m pc' Ls (v :: st)))) : own_G p e below s Q ce sl (T.setTop (mkF m pc Ls st)) := by
  subst hp; exact own_fw (fun t q => XS.aloadN X.here hx rfl hd hl hv q) k
theorem own_aload {i : Nat} {v : Value} (X : Stand p l e R s m args below meth c T locs cells slots) (hx : p.tables.exec = Jvm.exec) (hd : decode c.code pc = .ok (.aload i, 2)) (hl : Ls[i]? = some (.val v)) (hv : v.isRef = true) (hp : pc + 2 = pc') (k : own_G p e below s Q ce sl (T.setTop (mkF m pc' Ls (v :: st)))) : own_G p e below s Q ce sl (T.setTop (mkF m pc Ls st)) := by
  subst hp; exact own_fw (fun t q => XS.aload X.here hx rfl hd hl hv q) k
theorem own_istoreN {i : Fin 4} {v : Int32} (X : Stand p l e R s m args below meth c T locs cells slots) (hx : p.tables.exec = Jvm.exec) (hd : decode c.code pc = .ok (.istore_n i, 1)) {l' : Array Slot} (hl : storeLocals Ls i.val (.int v) = some l') (hp : pc + 1 = pc') (k : own_G p e below s Q ce sl (T.setTop (mkF m pc' l' st))) : own_G p e below s Q ce sl (T.setTop (mkF m pc Ls (.int v :: st))) := by
  subst hp; exact own_fw (fun t q => XS.istoreN X.here hx rfl hd rfl hl q) k
theorem own_istore {i : Nat} {v : Int32} (X : Stand p l e R s m args below meth c T locs cells slots) (hx : p.tables.exec = Jvm.exec) (hd : decode c.code pc = .ok (.istore i, 2)) {l' : Array Slot} (hl : storeLocals Ls i (.int v) = some l') (hp : pc + 2 = pc') (k : own_G p e below s Q ce sl (T.setTop (mkF m pc' l' st))) : own_G p e below s Q ce sl (T.setTop (mkF m pc Ls (.int v :: st))) := by
  subst hp; exact own_fw (fun t q => XS.istore X.here hx rfl hd rfl hl q) k
theorem own_lstoreN {i : Fin 4} {v : Int64} (X : Stand p l e R s m args below meth c T locs cells slots) (hx : p.tables.exec = Jvm.exec) (hd : decode c.code pc = .ok (.lstore_n i, 1)) {l' : Array Slot} (hl : storeLocals Ls i.val (.long v) = some l') (hp : pc + 1 = pc') (k : own_G p e below s Q ce sl (T.setTop (mkF m pc' l' st))) : own_G p e below s Q ce sl (T.setTop (mkF m pc Ls (.long v :: st))) := by
  subst hp; exact own_fw (fun t q => XS.lstoreN X.here hx rfl hd rfl hl q) k
theorem own_lstore {i : Nat} {v : Int64} (X : Stand p l e R s m args below meth c T locs cells slots) (hx : p.tables.exec = Jvm.exec) (hd : decode c.code pc = .ok (.lstore i, 2)) {l' : Array Slot} (hl : storeLocals Ls i (.long v) = some l') (hp : pc + 2 = pc') (k : own_G p e below s Q ce sl (T.setTop (mkF m pc' l' st))) : own_G p e below s Q ce sl (T.setTop (mkF m pc Ls (.long v :: st))) := by
  subst hp; exact own_fw (fun t q => XS.lstore X.here hx rfl hd rfl hl q) k
theorem own_astoreN {i : Fin 4} {v : Value} (X : Stand p l e R s m args below meth c T locs cells slots) (hx : p.tables.exec = Jvm.exec) (hd : decode c.code pc = .ok (.astore_n i, 1)) (hv : v.isRef = true) {l' : Array Slot} (hl : storeLocals Ls i.val v = some l') (hp : pc + 1 = pc') (k : own_G p e below s Q ce sl (T.setTop (mkF m pc' l' st))) : own_G p e below s Q ce sl (T.setTop (mkF m pc Ls (v :: st))) := by
  subst hp; exact own_fw (fun t q => XS.astoreN X.here hx rfl hd rfl hv hl q) k
theorem own_astore {i : Nat} {v : Value} (X : Stand p l e R s m args below meth c T locs cells slots) (hx : p.tables.exec = Jvm.exec) (hd : decode c.code pc = .ok (.astore i, 2)) (hv : v.isRef = true) {l' : Array Slot} (hl : storeLocals Ls i v = some l') (hp : pc + 2 = pc') (k : own_G p e below s Q ce sl (T.setTop (mkF m pc' l' st))) : own_G p e below s Q ce sl (T.setTop (mkF m pc Ls (v :: st))) := by
  subst hp; exact own_fw (fun t q => XS.astore X.here hx rfl hd rfl hv hl q) k
theorem own_iconst {i : Int} {z : Int32} (X : Stand p l e R s m args below meth c T locs cells slots) (hx : p.tables.exec = Jvm.exec) (hd : decode c.code pc = .ok (.iconst i, 1)) (hz : Int32.ofInt i = z) (hp : pc + 1 = pc') (k : own_G p e below s Q ce sl (T.setTop (mkF m pc' Ls (.int z :: st)))) : own_G p e below s Q ce sl (T.setTop (mkF m pc Ls st)) := by
  subst hp hz; exact own_fw (fun t q => XS.iconst X.here hx rfl hd q) k
theorem own_bipush {i : Int} {z : Int32} (X : Stand p l e R s m args below meth c T locs cells slots) (hx : p.tables.exec = Jvm.exec) (hd : decode c.code pc = .ok (.bipush i, 2)) (hz : (Int8.ofInt i).toInt32 = z) (hp : pc + 2 = pc') (k : own_G p e below s Q ce sl (T.setTop (mkF m pc' Ls (.int z :: st)))) : own_G p e below s Q ce sl (T.setTop (mkF m pc Ls st)) := by
  subst hp hz; exact own_fw (fun t q => XS.bipush X.here hx rfl hd q) k
theorem own_sipush {i : Int} {z : Int32} (X : Stand p l e R s m args below meth c T locs cells slots) (hx : p.tables.exec = Jvm.exec) (hd : decode c.code pc = .ok (.sipush i, 3)) (hz : (Int16.ofInt i).toInt32 = z) (hp : pc + 3 = pc') (k : own_G p e below s Q ce sl (T.setTop (mkF m pc' Ls (.int z :: st)))) : own_G p e below s Q ce sl (T.setTop (mkF m pc Ls st)) := by
  subst hp hz; exact own_fw (fun t q => XS.sipush X.here hx rfl hd q) k
theorem own_lconst {i : Fin 2} {z : Int64} (X : Stand p l e R s m args below meth c T locs cells slots) (hx : p.tables.exec = Jvm.exec) (hd : decode c.code pc = .ok (.lconst i, 1)) (hz : Int64.ofNat i = z) (hp : pc + 1 = pc') (k : own_G p e below s Q ce sl (T.setTop (mkF m pc' Ls (.long z :: st)))) : own_G p e below s Q ce sl (T.setTop (mkF m pc Ls st)) := by
  subst hp hz; exact own_fw (fun t q => XS.lconst X.here hx rfl hd q) k
theorem own_aconstNull (X : Stand p l e R s m args below meth c T locs cells slots) (hx : p.tables.exec = Jvm.exec) (hd : decode c.code pc = .ok (.aconst_null, 1)) (hp : pc + 1 = pc') (k : own_G p e below s Q ce sl (T.setTop (mkF m pc' Ls (.null :: st)))) : own_G p e below s Q ce sl (T.setTop (mkF m pc Ls st)) := by
  subst hp; exact own_fw (fun t q => XS.aconstNull X.here hx rfl hd q) k
theorem own_ldc (X : Stand p l e R s m args below meth c T locs cells slots) (hx : p.tables.exec = Jvm.exec) (hZ : Z.Warmed39 s.vm) {own : String} {index : Nat} {v : Int32} (hown : s.vm.findClass own = some m.cls) (w1 : (Jvm.Cond.constant own index v).before a0 Z = true) (hd : decode c.code pc = .ok (.ldc index, 2)) (hp : pc + 2 = pc') (k : own_G p e below s Q ce sl (T.setTop (mkF m pc' Ls (.int v :: st)))) : own_G p e below s Q ce sl (T.setTop (mkF m pc Ls st)) := by
  subst hp; exact own_fw (X.ldcInt hx hown (mvT hZ w1) (g := mkF m pc Ls st) rfl hd) k
theorem own_ldc2 (X : Stand p l e R s m args below meth c T locs cells slots) (hx : p.tables.exec = Jvm.exec) (hZ : Z.Warmed39 s.vm) {own : String} {index : Nat} {v : Int64} (hown : s.vm.findClass own = some m.cls) (w1 : (Jvm.Cond.constantLong own index v).before a0 Z = true) (hd : decode c.code pc = .ok (.ldc2_w index, 3)) (hp : pc + 3 = pc') (k : own_G p e below s Q ce sl (T.setTop (mkF m pc' Ls (.long v :: st)))) : own_G p e below s Q ce sl (T.setTop (mkF m pc Ls st)) := by
  subst hp; exact own_fw (X.ldc2Long hx hown (mvT hZ w1) (g := mkF m pc Ls st) rfl hd) k
theorem own_iadd {x y : Int32} (X : Stand p l e R s m args below meth c T locs cells slots) (hx : p.tables.exec = Jvm.exec) (hd : decode c.code pc = .ok (.iadd, 1)) (hp : pc + 1 = pc') (k : own_G p e below s Q ce sl (T.setTop (mkF m pc' Ls (.int (x + y) :: st)))) : own_G p e below s Q ce sl (T.setTop (mkF m pc Ls (.int y :: .int x :: st))) := by
  subst hp; exact own_fw (fun t q => XS.iadd X.here hx rfl hd rfl q) k
theorem own_isub {x y : Int32} (X : Stand p l e R s m args below meth c T locs cells slots) (hx : p.tables.exec = Jvm.exec) (hd : decode c.code pc = .ok (.isub, 1)) (hp : pc + 1 = pc') (k : own_G p e below s Q ce sl (T.setTop (mkF m pc' Ls (.int (x - y) :: st)))) : own_G p e below s Q ce sl (T.setTop (mkF m pc Ls (.int y :: .int x :: st))) := by
  subst hp; exact own_fw (fun t q => XS.isub X.here hx rfl hd rfl q) k
theorem own_imul {x y : Int32} (X : Stand p l e R s m args below meth c T locs cells slots) (hx : p.tables.exec = Jvm.exec) (hd : decode c.code pc = .ok (.imul, 1)) (hp : pc + 1 = pc') (k : own_G p e below s Q ce sl (T.setTop (mkF m pc' Ls (.int (x * y) :: st)))) : own_G p e below s Q ce sl (T.setTop (mkF m pc Ls (.int y :: .int x :: st))) := by
  subst hp; exact own_fw (fun t q => XS.imul X.here hx rfl hd rfl q) k
theorem own_iand {x y : Int32} (X : Stand p l e R s m args below meth c T locs cells slots) (hx : p.tables.exec = Jvm.exec) (hd : decode c.code pc = .ok (.iand, 1)) (hp : pc + 1 = pc') (k : own_G p e below s Q ce sl (T.setTop (mkF m pc' Ls (.int (x &&& y) :: st)))) : own_G p e below s Q ce sl (T.setTop (mkF m pc Ls (.int y :: .int x :: st))) := by
  subst hp; exact own_fw (fun t q => XS.iand X.here hx rfl hd rfl q) k
theorem own_ior {x y : Int32} (X : Stand p l e R s m args below meth c T locs cells slots) (hx : p.tables.exec = Jvm.exec) (hd : decode c.code pc = .ok (.ior, 1)) (hp : pc + 1 = pc') (k : own_G p e below s Q ce sl (T.setTop (mkF m pc' Ls (.int (x ||| y) :: st)))) : own_G p e below s Q ce sl (T.setTop (mkF m pc Ls (.int y :: .int x :: st))) := by
  subst hp; exact own_fw (fun t q => XS.ior X.here hx rfl hd rfl q) k
theorem own_ixor {x y : Int32} (X : Stand p l e R s m args below meth c T locs cells slots) (hx : p.tables.exec = Jvm.exec) (hd : decode c.code pc = .ok (.ixor, 1)) (hp : pc + 1 = pc') (k : own_G p e below s Q ce sl (T.setTop (mkF m pc' Ls (.int (x ^^^ y) :: st)))) : own_G p e below s Q ce sl (T.setTop (mkF m pc Ls (.int y :: .int x :: st))) := by
  subst hp; exact own_fw (fun t q => XS.ixor X.here hx rfl hd rfl q) k
theorem own_ishl {x y : Int32} (X : Stand p l e R s m args below meth c T locs cells slots) (hx : p.tables.exec = Jvm.exec) (hd : decode c.code pc = .ok (.ishl, 1)) (hp : pc + 1 = pc') (k : own_G p e below s Q ce sl (T.setTop (mkF m pc' Ls (.int (x <<< (y &&& 31)) :: st)))) : own_G p e below s Q ce sl (T.setTop (mkF m pc Ls (.int y :: .int x :: st))) := by
  subst hp; exact own_fw (fun t q => XS.ishl X.here hx rfl hd rfl q) k
theorem own_ishr {x y : Int32} (X : Stand p l e R s m args below meth c T locs cells slots) (hx : p.tables.exec = Jvm.exec) (hd : decode c.code pc = .ok (.ishr, 1)) (hp : pc + 1 = pc') (k : own_G p e below s Q ce sl (T.setTop (mkF m pc' Ls (.int (x >>> (y &&& 31)) :: st)))) : own_G p e below s Q ce sl (T.setTop (mkF m pc Ls (.int y :: .int x :: st))) := by
  subst hp; exact own_fw (fun t q => XS.ishr X.here hx rfl hd rfl q) k
theorem own_iushr {x y : Int32} (X : Stand p l e R s m args below meth c T locs cells slots) (hx : p.tables.exec = Jvm.exec) (hd : decode c.code pc = .ok (.iushr, 1)) (hp : pc + 1 = pc') (k : own_G p e below s Q ce sl (T.setTop (mkF m pc' Ls (.int ((x.toUInt32 >>> (y &&& 31).toUInt32).toInt32) :: st)))) : own_G p e below s Q ce sl (T.setTop (mkF m pc Ls (.int y :: .int x :: st))) := by
  subst hp; exact own_fw (fun t q => XS.iushr X.here hx rfl hd rfl q) k
theorem own_ladd {x y : Int64} (X : Stand p l e R s m args below meth c T locs cells slots) (hx : p.tables.exec = Jvm.exec) (hd : decode c.code pc = .ok (.ladd, 1)) (hp : pc + 1 = pc') (k : own_G p e below s Q ce sl (T.setTop (mkF m pc' Ls (.long (x + y) :: st)))) : own_G p e below s Q ce sl (T.setTop (mkF m pc Ls (.long y :: .long x :: st))) := by
  subst hp; exact own_fw (fun t q => XS.ladd X.here hx rfl hd rfl q) k
theorem own_lsub {x y : Int64} (X : Stand p l e R s m args below meth c T locs cells slots) (hx : p.tables.exec = Jvm.exec) (hd : decode c.code pc = .ok (.lsub, 1)) (hp : pc + 1 = pc') (k : own_G p e below s Q ce sl (T.setTop (mkF m pc' Ls (.long (x - y) :: st)))) : own_G p e below s Q ce sl (T.setTop (mkF m pc Ls (.long y :: .long x :: st))) := by
  subst hp; exact own_fw (fun t q => XS.lsub X.here hx rfl hd rfl q) k
theorem own_lmul {x y : Int64} (X : Stand p l e R s m args below meth c T locs cells slots) (hx : p.tables.exec = Jvm.exec) (hd : decode c.code pc = .ok (.lmul, 1)) (hp : pc + 1 = pc') (k : own_G p e below s Q ce sl (T.setTop (mkF m pc' Ls (.long (x * y) :: st)))) : own_G p e below s Q ce sl (T.setTop (mkF m pc Ls (.long y :: .long x :: st))) := by
  subst hp; exact own_fw (fun t q => XS.lmul X.here hx rfl hd rfl q) k
theorem own_land {x y : Int64} (X : Stand p l e R s m args below meth c T locs cells slots) (hx : p.tables.exec = Jvm.exec) (hd : decode c.code pc = .ok (.land, 1)) (hp : pc + 1 = pc') (k : own_G p e below s Q ce sl (T.setTop (mkF m pc' Ls (.long (x &&& y) :: st)))) : own_G p e below s Q ce sl (T.setTop (mkF m pc Ls (.long y :: .long x :: st))) := by
  subst hp; exact own_fw (fun t q => XS.land X.here hx rfl hd rfl q) k
theorem own_lor {x y : Int64} (X : Stand p l e R s m args below meth c T locs cells slots) (hx : p.tables.exec = Jvm.exec) (hd : decode c.code pc = .ok (.lor, 1)) (hp : pc + 1 = pc') (k : own_G p e below s Q ce sl (T.setTop (mkF m pc' Ls (.long (x ||| y) :: st)))) : own_G p e below s Q ce sl (T.setTop (mkF m pc Ls (.long y :: .long x :: st))) := by
  subst hp; exact own_fw (fun t q => XS.lor X.here hx rfl hd rfl q) k
theorem own_lxor {x y : Int64} (X : Stand p l e R s m args below meth c T locs cells slots) (hx : p.tables.exec = Jvm.exec) (hd : decode c.code pc = .ok (.lxor, 1)) (hp : pc + 1 = pc') (k : own_G p e below s Q ce sl (T.setTop (mkF m pc' Ls (.long (x ^^^ y) :: st)))) : own_G p e below s Q ce sl (T.setTop (mkF m pc Ls (.long y :: .long x :: st))) := by
  subst hp; exact own_fw (fun t q => XS.lxor X.here hx rfl hd rfl q) k
theorem own_lshl {x : Int64} {y : Int32} (X : Stand p l e R s m args below meth c T locs cells slots) (hx : p.tables.exec = Jvm.exec) (hd : decode c.code pc = .ok (.lshl, 1)) (hp : pc + 1 = pc') (k : own_G p e below s Q ce sl (T.setTop (mkF m pc' Ls (.long (x <<< (y &&& 0x3f).toInt64) :: st)))) : own_G p e below s Q ce sl (T.setTop (mkF m pc Ls (.int y :: .long x :: st))) := by
  subst hp; exact own_fw (fun t q => XS.lshl X.here hx rfl hd rfl q) k
theorem own_lshr {x : Int64} {y : Int32} (X : Stand p l e R s m args below meth c T locs cells slots) (hx : p.tables.exec = Jvm.exec) (hd : decode c.code pc = .ok (.lshr, 1)) (hp : pc + 1 = pc') (k : own_G p e below s Q ce sl (T.setTop (mkF m pc' Ls (.long (x >>> (y &&& 0x3f).toInt64) :: st)))) : own_G p e below s Q ce sl (T.setTop (mkF m pc Ls (.int y :: .long x :: st))) := by
  subst hp; exact own_fw (fun t q => XS.lshr X.here hx rfl hd rfl q) k
theorem own_lushr {x : Int64} {y : Int32} (X : Stand p l e R s m args below meth c T locs cells slots) (hx : p.tables.exec = Jvm.exec) (hd : decode c.code pc = .ok (.lushr, 1)) (hp : pc + 1 = pc') (k : own_G p e below s Q ce sl (T.setTop (mkF m pc' Ls (.long ((x.toUInt64 >>> (y &&& 0x3f).toInt64.toUInt64).toInt64) :: st)))) : own_G p e below s Q ce sl (T.setTop (mkF m pc Ls (.int y :: .long x :: st))) := by
  subst hp; exact own_fw (fun t q => XS.lushr X.here hx rfl hd rfl q) k
theorem own_idiv {x y : Int32} (X : Stand p l e R s m args below meth c T locs cells slots) (hx : p.tables.exec = Jvm.exec) (hd : decode c.code pc = .ok (.idiv, 1)) (hy : y ≠ 0) (hp : pc + 1 = pc') (k : own_G p e below s Q ce sl (T.setTop (mkF m pc' Ls (.int (x / y) :: st)))) : own_G p e below s Q ce sl (T.setTop (mkF m pc Ls (.int y :: .int x :: st))) := by
  subst hp; exact own_fw (fun t q => XS.idiv X.here hx rfl hd rfl hy q) k
theorem own_ldiv {x y : Int64} (X : Stand p l e R s m args below meth c T locs cells slots) (hx : p.tables.exec = Jvm.exec) (hd : decode c.code pc = .ok (.ldiv, 1)) (hy : y ≠ 0) (hp : pc + 1 = pc') (k : own_G p e below s Q ce sl (T.setTop (mkF m pc' Ls (.long (x / y) :: st)))) : own_G p e below s Q ce sl (T.setTop (mkF m pc Ls (.long y :: .long x :: st))) := by
  subst hp; exact own_fw (fun t q => XS.ldiv X.here hx rfl hd rfl hy q) k
theorem own_irem {x y : Int32} (X : Stand p l e R s m args below meth c T locs cells slots) (hx : p.tables.exec = Jvm.exec) (hd : decode c.code pc = .ok (.irem, 1)) (hy : y ≠ 0) (hp : pc + 1 = pc') (k : own_G p e below s Q ce sl (T.setTop (mkF m pc' Ls (.int (x % y) :: st)))) : own_G p e below s Q ce sl (T.setTop (mkF m pc Ls (.int y :: .int x :: st))) := by
  subst hp; exact own_fw (fun t q => iremM X hx rfl hd rfl hy q) k
theorem own_lrem {x y : Int64} (X : Stand p l e R s m args below meth c T locs cells slots) (hx : p.tables.exec = Jvm.exec) (hd : decode c.code pc = .ok (.lrem, 1)) (hy : y ≠ 0) (hp : pc + 1 = pc') (k : own_G p e below s Q ce sl (T.setTop (mkF m pc' Ls (.long (x % y) :: st)))) : own_G p e below s Q ce sl (T.setTop (mkF m pc Ls (.long y :: .long x :: st))) := by
  subst hp; rw [← lrem_mod] at k; exact own_fw (fun t q => XS.lrem X.here hx rfl hd rfl hy q) k
theorem own_ineg {x : Int32} (X : Stand p l e R s m args below meth c T locs cells slots) (hx : p.tables.exec = Jvm.exec) (hd : decode c.code pc = .ok (.ineg, 1)) (hp : pc + 1 = pc') (k : own_G p e below s Q ce sl (T.setTop (mkF m pc' Ls (.int (-x) :: st)))) : own_G p e below s Q ce sl (T.setTop (mkF m pc Ls (.int x :: st))) := by
  subst hp; exact own_fw (fun t q => XS.ineg X.here hx rfl hd rfl q) k
theorem own_lneg {x : Int64} (X : Stand p l e R s m args below meth c T locs cells slots) (hx : p.tables.exec = Jvm.exec) (hd : decode c.code pc = .ok (.lneg, 1)) (hp : pc + 1 = pc') (k : own_G p e below s Q ce sl (T.setTop (mkF m pc' Ls (.long (-x) :: st)))) : own_G p e below s Q ce sl (T.setTop (mkF m pc Ls (.long x :: st))) := by
  subst hp; exact own_fw (fun t q => XS.lneg X.here hx rfl hd rfl q) k
theorem own_i2l {x : Int32} (X : Stand p l e R s m args below meth c T locs cells slots) (hx : p.tables.exec = Jvm.exec) (hd : decode c.code pc = .ok (.i2l, 1)) (hp : pc + 1 = pc') (k : own_G p e below s Q ce sl (T.setTop (mkF m pc' Ls (.long x.toInt64 :: st)))) : own_G p e below s Q ce sl (T.setTop (mkF m pc Ls (.int x :: st))) := by
  subst hp; exact own_fw (fun t q => XS.i2l X.here hx rfl hd rfl q) k
theorem own_l2i {x : Int64} (X : Stand p l e R s m args below meth c T locs cells slots) (hx : p.tables.exec = Jvm.exec) (hd : decode c.code pc = .ok (.l2i, 1)) (hp : pc + 1 = pc') (k : own_G p e below s Q ce sl (T.setTop (mkF m pc' Ls (.int x.toInt32 :: st)))) : own_G p e below s Q ce sl (T.setTop (mkF m pc Ls (.long x :: st))) := by
  subst hp; exact own_fw (fun t q => XS.l2i X.here hx rfl hd rfl q) k
theorem own_i2b {x : Int32} (X : Stand p l e R s m args below meth c T locs cells slots) (hx : p.tables.exec = Jvm.exec) (hd : decode c.code pc = .ok (.i2b, 1)) (hp : pc + 1 = pc') (k : own_G p e below s Q ce sl (T.setTop (mkF m pc' Ls (.int x.toInt8.toInt32 :: st)))) : own_G p e below s Q ce sl (T.setTop (mkF m pc Ls (.int x :: st))) := by
  subst hp; exact own_fw (fun t q => XS.i2b X.here hx rfl hd rfl q) k
theorem own_lcmp {x y : Int64} (X : Stand p l e R s m args below meth c T locs cells slots) (hx : p.tables.exec = Jvm.exec) (hd : decode c.code pc = .ok (.lcmp, 1)) (hp : pc + 1 = pc') (k : own_G p e below s Q ce sl (T.setTop (mkF m pc' Ls (.int (lcmpW x y) :: st)))) : own_G p e below s Q ce sl (T.setTop (mkF m pc Ls (.long y :: .long x :: st))) := by
  subst hp; exact own_fw (fun t q => XS.lcmp X.here hx rfl hd rfl q) k
theorem own_dup {x : Value} (X : Stand p l e R s m args below meth c T locs cells slots) (hx : p.tables.exec = Jvm.exec) (hd : decode c.code pc = .ok (.dup, 1)) (hc : x.category = 1) (hp : pc + 1 = pc') (k : own_G p e below s Q ce sl (T.setTop (mkF m pc' Ls (x :: x :: st)))) : own_G p e below s Q ce sl (T.setTop (mkF m pc Ls (x :: st))) := by
  subst hp; exact own_fw (fun t q => XS.dup X.here hx rfl hd rfl hc q) k
theorem own_pop {x : Value} (X : Stand p l e R s m args below meth c T locs cells slots) (hx : p.tables.exec = Jvm.exec) (hd : decode c.code pc = .ok (.pop, 1)) (hc : x.category = 1) (hp : pc + 1 = pc') (k : own_G p e below s Q ce sl (T.setTop (mkF m pc' Ls st))) : own_G p e below s Q ce sl (T.setTop (mkF m pc Ls (x :: st))) := by
  subst hp; exact own_fw (fun t q => XS.pop X.here hx rfl hd rfl hc q) k
theorem own_dupX1 {x y : Value} (X : Stand p l e R s m args below meth c T locs cells slots) (hx : p.tables.exec = Jvm.exec) (hd : decode c.code pc = .ok (.dup_x1, 1)) (hc : x.category = 1) (hc' : y.category = 1) (hp : pc + 1 = pc') (k : own_G p e below s Q ce sl (T.setTop (mkF m pc' Ls (x :: y :: x :: st)))) : own_G p e below s Q ce sl (T.setTop (mkF m pc Ls (x :: y :: st))) := by
  subst hp; exact own_fw (fun t q => XS.dupX1 X.here hx rfl hd rfl hc hc' q) k
theorem own_dup2 {x y : Value} (X : Stand p l e R s m args below meth c T locs cells slots) (hx : p.tables.exec = Jvm.exec) (hd : decode c.code pc = .ok (.dup2, 1)) (hc : x.category = 1) (hc' : y.category = 1) (hp : pc + 1 = pc') (k : own_G p e below s Q ce sl (T.setTop (mkF m pc' Ls (x :: y :: x :: y :: st)))) : own_G p e below s Q ce sl (T.setTop (mkF m pc Ls (x :: y :: st))) := by
  subst hp; exact own_fw (fun t q => XT.dup2 X.here hx rfl hd rfl hc hc' q) k
theorem own_iinc {i : Nat} {cst : Int} {x z : Int32} (X : Stand p l e R s m args below meth c T locs cells slots) (hx : p.tables.exec = Jvm.exec) (hd : decode c.code pc = .ok (.iinc i cst, 3)) (hl : Ls[i]? = some (.val (.int x))) (hz : Int32.ofInt cst = z) {l' : Array Slot} (hl' : storeLocals Ls i (.int (x + z)) = some l') (hp : pc + 3 = pc') (k : own_G p e below s Q ce sl (T.setTop (mkF m pc' l' st))) : own_G p e below s Q ce sl (T.setTop (mkF m pc Ls st)) := by
  subst hp hz; exact own_fw (fun t q => XS.iinc X.here hx rfl hd hl hl' q) k
theorem own_goto {o : Int} (X : Stand p l e R s m args below meth c T locs cells slots) (hx : p.tables.exec = Jvm.exec) (hd : decode c.code pc = .ok (.goto o, 3)) (ho : 0 ≤ (pc : Int) + o) (hp : ((pc : Int) + o).toNat = pc') (k : own_G p e below s Q ce sl (T.setTop (mkF m pc' Ls st))) : own_G p e below s Q ce sl (T.setTop (mkF m pc Ls st)) := own_fw (fun t q => XS.goto X.here hx rfl (pc0 := pc) rfl hd ho hp q) k
theorem own_icmpT {o : Int} {cd : ClassFile.Cond} {x y : Int32} (X : Stand p l e R s m args below meth c T locs cells slots) (hx : p.tables.exec = Jvm.exec) (hd : decode c.code pc = .ok (.if_icmp cd o, 3)) (hc : if_icmp.holds cd x y = true) (ho : 0 ≤ (pc : Int) + o) (hp : ((pc : Int) + o).toNat = pc') (k : own_G p e below s Q ce sl (T.setTop (mkF m pc' Ls st))) : own_G p e below s Q ce sl (T.setTop (mkF m pc Ls (.int y :: .int x :: st))) := own_fw (fun t q => XS.icmpYes X.here hx rfl (pc0 := pc) rfl hd rfl hc ho hp q) k
theorem own_icmpF {o : Int} {cd : ClassFile.Cond} {x y : Int32} (X : Stand p l e R s m args below meth c T locs cells slots) (hx : p.tables.exec = Jvm.exec) (hd : decode c.code pc = .ok (.if_icmp cd o, 3)) (hc : if_icmp.holds cd x y = false) (hp : pc + 3 = pc') (k : own_G p e below s Q ce sl (T.setTop (mkF m pc' Ls st))) : own_G p e below s Q ce sl (T.setTop (mkF m pc Ls (.int y :: .int x :: st))) := by
  subst hp; exact own_fw (fun t q => XS.icmpNo X.here hx rfl hd rfl hc q) k
theorem own_ifT {o : Int} {cd : ClassFile.Cond} {x : Int32} (X : Stand p l e R s m args below meth c T locs cells slots) (hx : p.tables.exec = Jvm.exec) (hd : decode c.code pc = .ok (.ifCond cd o, 3)) (hc : if_icmp.holds cd x 0 = true) (ho : 0 ≤ (pc : Int) + o) (hp : ((pc : Int) + o).toNat = pc') (k : own_G p e below s Q ce sl (T.setTop (mkF m pc' Ls st))) : own_G p e below s Q ce sl (T.setTop (mkF m pc Ls (.int x :: st))) := own_fw (fun t q => XS.ifYes X.here hx rfl (pc0 := pc) rfl hd rfl ((if0 cd x).trans hc) ho hp q) k
theorem own_ifF {o : Int} {cd : ClassFile.Cond} {x : Int32} (X : Stand p l e R s m args below meth c T locs cells slots) (hx : p.tables.exec = Jvm.exec) (hd : decode c.code pc = .ok (.ifCond cd o, 3)) (hc : if_icmp.holds cd x 0 = false) (hp : pc + 3 = pc') (k : own_G p e below s Q ce sl (T.setTop (mkF m pc' Ls st))) : own_G p e below s Q ce sl (T.setTop (mkF m pc Ls (.int x :: st))) := by
  subst hp; exact own_fw (fun t q => XS.ifNo X.here hx rfl hd rfl ((if0 cd x).trans hc) q) k
theorem own_ltL {x y : Int64} (h : x < y) : if_icmp.holds .lt (lcmpW x y) 0 = true ∧ if_icmp.holds .ge (lcmpW x y) 0 = false ∧ if_icmp.holds .gt (lcmpW y x) 0 = true ∧ if_icmp.holds .le (lcmpW y x) 0 = false := by
  have h1 := (lw_lt x y).mpr h
  have h2 := (lw_gt y x).mpr h
  exact ⟨(tlt h1).1, (tlt h1).2.1, (tlt h2).2.2.1, (tlt h2).2.2.2⟩
theorem own_geL {x y : Int64} (h : ¬ x < y) : if_icmp.holds .lt (lcmpW x y) 0 = false ∧ if_icmp.holds .ge (lcmpW x y) 0 = true ∧ if_icmp.holds .gt (lcmpW y x) 0 = false ∧ if_icmp.holds .le (lcmpW y x) 0 = true := by
  have h1 : ¬ lcmpW x y < 0 := fun q => h ((lw_lt x y).mp q)
  have h2 : ¬ 0 < lcmpW y x := fun q => h ((lw_gt y x).mp q)
  exact ⟨(flt h1).1, (flt h1).2.1, (flt h2).2.2.1, (flt h2).2.2.2⟩
theorem own_eqL {x y : Int64} (h : x = y) : if_icmp.holds .eq (lcmpW x y) 0 = true ∧ if_icmp.holds .ne (lcmpW x y) 0 = false := teq ((lw_eq x y).mpr h)
theorem own_neL {x y : Int64} (h : ¬ x = y) : if_icmp.holds .eq (lcmpW x y) 0 = false ∧ if_icmp.holds .ne (lcmpW x y) 0 = true := feq (fun q => h ((lw_eq x y).mp q))
theorem own_bT {P : Prop} [Decidable P] (h : P) : if_icmp.holds .eq (if P then (1 : Int32) else 0) 0 = false ∧ if_icmp.holds .ne (if P then (1 : Int32) else 0) 0 = true := by rw [if_pos h]; exact ⟨rfl, rfl⟩
theorem own_bF {P : Prop} [Decidable P] (h : ¬ P) : if_icmp.holds .eq (if P then (1 : Int32) else 0) 0 = true ∧ if_icmp.holds .ne (if P then (1 : Int32) else 0) 0 = false := by rw [if_neg h]; exact ⟨rfl, rfl⟩
theorem own_b01 {P : Prop} [Decidable P] : (if P then (1 : Int32) else 0) = 0 ∨ (if P then (1 : Int32) else 0) = 1 := by by_cases h : P <;> simp [h]
theorem own_ifnonnullT {o : Int} {b : Addr} (X : Stand p l e R s m args below meth c T locs cells slots) (hx : p.tables.exec = Jvm.exec) (hd : decode c.code pc = .ok (.ifnonnull o, 3)) (ho : 0 ≤ (pc : Int) + o) (hp : ((pc : Int) + o).toNat = pc') (k : own_G p e below s Q ce sl (T.setTop (mkF m pc' Ls st))) : own_G p e below s Q ce sl (T.setTop (mkF m pc Ls (.ref b :: st))) := own_fw (fun t q => XS.ifnonnullYes X.here hx rfl (pc0 := pc) rfl hd rfl ho hp q) k
theorem own_ifnonnullF {o : Int} (X : Stand p l e R s m args below meth c T locs cells slots) (hx : p.tables.exec = Jvm.exec) (hd : decode c.code pc = .ok (.ifnonnull o, 3)) (hp : pc + 3 = pc') (k : own_G p e below s Q ce sl (T.setTop (mkF m pc' Ls st))) : own_G p e below s Q ce sl (T.setTop (mkF m pc Ls (.null :: st))) := by
  subst hp; exact own_fw (fun t q => XS.ifnonnullNo X.here hx rfl hd rfl q) k
theorem own_ifnullT {o : Int} (X : Stand p l e R s m args below meth c T locs cells slots) (hx : p.tables.exec = Jvm.exec) (hd : decode c.code pc = .ok (.ifnull o, 3)) (ho : 0 ≤ (pc : Int) + o) (hp : ((pc : Int) + o).toNat = pc') (k : own_G p e below s Q ce sl (T.setTop (mkF m pc' Ls st))) : own_G p e below s Q ce sl (T.setTop (mkF m pc Ls (.null :: st))) := own_fw (fun t q => XS.ifnullYes X.here hx rfl (pc0 := pc) rfl hd rfl ho hp q) k
theorem own_ifnullF {o : Int} {b : Addr} (X : Stand p l e R s m args below meth c T locs cells slots) (hx : p.tables.exec = Jvm.exec) (hd : decode c.code pc = .ok (.ifnull o, 3)) (hp : pc + 3 = pc') (k : own_G p e below s Q ce sl (T.setTop (mkF m pc' Ls st))) : own_G p e below s Q ce sl (T.setTop (mkF m pc Ls (.ref b :: st))) := by
  subst hp; exact own_fw (fun t q => XS.ifnullNo X.here hx rfl hd rfl q) k
theorem own_acmpT {o : Int} {cd : ACond} {x y : Value} (X : Stand p l e R s m args below meth c T locs cells slots) (hx : p.tables.exec = Jvm.exec) (hd : decode c.code pc = .ok (.if_acmp cd o, 3)) (h1 : x.isRef = true) (h2 : y.isRef = true) (hc : XT.acmp cd x y = true) (ho : 0 ≤ (pc : Int) + o) (hp : ((pc : Int) + o).toNat = pc') (k : own_G p e below s Q ce sl (T.setTop (mkF m pc' Ls st))) : own_G p e below s Q ce sl (T.setTop (mkF m pc Ls (y :: x :: st))) := own_fw (fun t q => XT.acmpYes X.here hx rfl (pc0 := pc) rfl hd rfl h1 h2 hc ho hp q) k
theorem own_acmpF {o : Int} {cd : ACond} {x y : Value} (X : Stand p l e R s m args below meth c T locs cells slots) (hx : p.tables.exec = Jvm.exec) (hd : decode c.code pc = .ok (.if_acmp cd o, 3)) (h1 : x.isRef = true) (h2 : y.isRef = true) (hc : XT.acmp cd x y = false) (hp : pc + 3 = pc') (k : own_G p e below s Q ce sl (T.setTop (mkF m pc' Ls st))) : own_G p e below s Q ce sl (T.setTop (mkF m pc Ls (y :: x :: st))) := by
  subst hp; exact own_fw (fun t q => XT.acmpNo X.here hx rfl hd rfl h1 h2 hc q) k
theorem own_getF (X : Stand p l e R s m args below meth c T locs cells slots) (hx : p.tables.exec = Jvm.exec) (hZ : Z.Warmed39 s.vm) {own O n d : String} {index : Nat} (hown : s.vm.findClass own = some m.cls) (w1 : (Jvm.Cond.fieldLink own index O n d).before a0 Z = true) (eT : T.heap = h) {a : Addr} {v : Value} (F : Fld Z h a O n d v) (hd : decode c.code pc = .ok (.getfield index, 3)) (hp : pc + 3 = pc')
    (k : ∀ T' : State, Stand p l e R s m args below meth c T' locs cells slots → T'.heap = h → own_G p e below s Q ce sl (T'.setTop (mkF m pc' Ls (v :: st)))) : own_G p e below s Q ce sl (T.setTop (mkF m pc Ls (.ref a :: st))) := by
  subst hp
  obtain ⟨T', X', e', st'⟩ := getF X hx hZ hown (host := "") (Or.inl w1) Via.refl eT F (g := mkF m pc Ls (.ref a :: st)) rfl rfl hd
  exact own_fw st' (k T' X' e')
theorem own_putF (X : Stand p l e R s m args below meth c T locs cells slots) (hx : p.tables.exec = Jvm.exec) (hZ : Z.Warmed39 s.vm) {own O n d C : String} {index kk : Nat} {ty : FieldType} (hown : s.vm.findClass own = some m.cls) (w1 : (Jvm.Cond.fieldLink own index O n d).before a0 Z = true) (eT : T.heap = h) {a : Addr} {v old : Value} (F : Fld Z h a O n d old) (E : Exa Z h a C) (L : (Jvm.Cond.lays C O n d).before a0 Z = true ∨ ((Jvm.Cond.laysFinal C O n d).before a0 Z = true ∧ own = O ∧ meth.name = "<init>")) (wi : (Jvm.Cond.instantiable C kk).before a0 Z = true) (hty : parseFieldDescriptor d = some ty) (hn : narrow ty v = v) (hf : fits ty v = true) (hd : decode c.code pc = .ok (.putfield index, 3)) (hp : pc + 3 = pc')
    (k : ∀ (T' : State) (h' : Heap), Stand p l e R s m args below meth c T' (locs ++ [⟨a, RoadKit.slotOf Z O n d⟩]) cells slots → T'.heap = h' → Wr h h' a (RoadKit.slotOf Z O n d) v → own_G p e below s Q ce sl (T'.setTop (mkF m pc' Ls st))) : own_G p e below s Q ce sl (T.setTop (mkF m pc Ls (v :: .ref a :: st))) := by
  subst hp
  obtain ⟨T', h', X', e', W', st'⟩ := putF X hx hZ hown (host := "") (Or.inl w1) Via.refl eT F E L wi hty hn hf (g := mkF m pc Ls (v :: .ref a :: st)) rfl rfl hd
  exact own_fw st' (k T' h' X' e' W')
theorem own_new (X : Stand p l e R s m args below meth c T locs cells slots) (hx : p.tables.exec = Jvm.exec) (hZ : Z.Warmed39 s.vm) {own C : String} {index n : Nat} (hown : s.vm.findClass own = some m.cls) (w1 : (Jvm.Cond.classLink own index C).before a0 Z = true) (wi : (Jvm.Cond.instantiable C n).before a0 Z = true) (wz : (Jvm.Cond.initialized C).before a0 Z = true) (eT : T.heap = h) (hd : decode c.code pc = .ok (.new index, 3)) (hp : pc + 3 = pc') (hc : cells + 1 ≤ R.cells) (hl : slots + n ≤ R.slots)
    (k : ∀ (T' : State) (h' : Heap) (a : Addr), a = h.size → Stand p l e R s m args below meth c T' locs (cells + 1) (slots + n) → T'.heap = h' → Ext h h' → Exa Z h' a C → (∀ {O nm d : String} {ty : FieldType}, Laid Z a0 C O nm d → parseFieldDescriptor d = some ty → Fld Z h' a O nm d (defaultValue ty)) → own_G p e below s Q ce sl (T'.setTop (mkF m pc' Ls (.ref a :: st)))) : own_G p e below s Q ce sl (T.setTop (mkF m pc Ls st)) := by
  subst hp
  obtain ⟨T', h', X', e', E', A', D', -, st'⟩ := newO X hx hZ hown w1 wi wz eT (g := mkF m pc Ls st) rfl hd hc hl
  exact own_fw st' (k T' h' h.size rfl X' e' E' A' D')
theorem own_initO (X : Stand p l e R s m args below meth c T locs cells slots) (hx : p.tables.exec = Jvm.exec) (hZ : Z.Warmed39 s.vm) {own : String} {idx : Nat} (hown : s.vm.findClass own = some m.cls) (w1 : (Jvm.Cond.methodLink own idx Lib.objectInit).before a0 Z = true) (w2 : (Jvm.Cond.instanceMethod Lib.objectInit).before a0 Z = true) (w3 : (Jvm.Cond.code Lib.objectInit object_method_1_code 1 none).before a0 Z = true) (eT : T.heap = h) (hsize : Ls.size = c.maxLocals) {a : Addr} (hd : decode c.code pc = .ok (.invokespecial idx, 3)) (hf : 1 ≤ R.frames) {W : Nat} (hW : (st.map fun v => v.category).sum ≤ W) (hl : W + 12 ≤ R.locals) (hp : pc + 3 = pc')
    (k : ∀ T' : State, Stand p l e R s m args below meth c T' locs cells slots → T'.heap = h → own_G p e below s Q ce sl (T'.setTop (mkF m pc' Ls st))) : own_G p e below s Q ce sl (T.setTop (mkF m pc Ls (.ref a :: st))) := by
  subst hp
  obtain ⟨T', X', e', st'⟩ := initO X hx hZ hown w1 w2 w3 eT (g := mkF m pc Ls (.ref a :: st)) rfl hsize rfl hd hf (W := W) (by show 2 * 0 + _ ≤ _; omega) hl
  exact own_fw st' (k T' X' e')
theorem own_callS (X : Stand p l e R s m args below meth c T locs cells slots) (hx : p.tables.exec = Jvm.exec) (hZ : Z.Warmed39 s.vm) {own : String} {index : Nat} {y : MethodName} {bytes : ByteArray} {maxL : Nat} {ret : Option FieldType} (hown : s.vm.findClass own = some m.cls) (w1 : (Jvm.Cond.methodLink own index y).before a0 Z = true) (w2 : (Jvm.Cond.static y).before a0 Z = true) (w3 : (Jvm.Cond.initialized y.cls).before a0 Z = true) (w4 : (Jvm.Cond.code y bytes maxL ret).before a0 Z = true) (hy : y.cls ≠ "java/lang/invoke/MethodHandle" ∧ y.cls ≠ "java/lang/invoke/VarHandle") {rm : Room} {as' : List Value} {Q' : Option Value → Heap → List Loc → Prop} (hM : own_M l Z y bytes maxL ret [] rm as'.toArray h Q' rm.cells rm.slots) (eT : T.heap = h) {W : Nat} (hf : rm.frames + 1 ≤ R.frames) (hl : W + (maxL + 11) + rm.locals ≤ R.locals) {ps : List FieldType} {r : Option FieldType} (pd : parseMethodDescriptor y.desc = some ⟨ps, r⟩) (hlen : as'.length = ps.length) {stk rest : List Value} (hstk : stk = as'.reverse ++ rest) (hd : decode c.code pc = .ok (.invokestatic index, 3)) (hW : (rest.map fun v => v.category).sum ≤ W) (hsize : Ls.size = c.maxLocals) (hc : cells + rm.cells ≤ R.cells) (hs : slots + rm.slots ≤ R.slots) (hp : pc + 3 = pc')
    (k : ∀ (v : Option Value) (T' : State) (L : List Loc), Stand p l e R s m args below meth c T' (locs ++ L) (cells + rm.cells) (slots + rm.slots) → Q' v T'.heap L → own_G p e below s Q ce sl (T'.setTop (mkF m pc' Ls (v.toList ++ rest)))) : own_G p e below s Q ce sl (T.setTop (mkF m pc Ls stk)) := by
  subst hp hstk
  obtain ⟨v, vm1, ⟨T', L', k', n'⟩, hWm, X', ⟨Lc, hQ', l', y', z'⟩, st'⟩ := Jvm.LawKit.callS X hx (y := y) hown (mvT hZ w1) (mvT hZ w2) (mvT hZ w3) (mvT hZ w4) hy (backOf (W := W) hM hZ w4 w3 hf hl) (g := mkF m pc Ls (as'.reverse ++ rest)) rfl hsize (argsL := as') (rest := rest) (lenOf pd hlen) rfl (by show 2 * 0 + _ ≤ _; omega) hd (fun _ _ => ⟨rfl, eT, hc, hs⟩)
  dsimp only [Pt.U, Pt.locs, Pt.cells, Pt.slots] at X' l' y' z' hQ'
  subst l' y' z'
  exact own_fw st' (k v T' Lc X' hQ')
theorem own_callC (X : Stand p l e R s m args below meth c T locs cells slots) (hx : p.tables.exec = Jvm.exec) (hZ : Z.Warmed39 s.vm) {own : String} {index : Nat} {y : MethodName} {bytes : ByteArray} {maxL : Nat} (hy1 : y.name = "<init>") (hown : s.vm.findClass own = some m.cls) (w1 : (Jvm.Cond.methodLink own index y).before a0 Z = true) (w2 : (Jvm.Cond.instanceMethod y).before a0 Z = true) (w3 : (Jvm.Cond.initialized y.cls).before a0 Z = true) (w4 : (Jvm.Cond.code y bytes maxL none).before a0 Z = true) (hy : y.cls ≠ "java/lang/invoke/MethodHandle" ∧ y.cls ≠ "java/lang/invoke/VarHandle") {a : Addr} {rm : Room} {as' : List Value} {Q' : Option Value → Heap → List Loc → Prop} (hM : own_M l Z y bytes maxL none [] rm (.ref a :: as').toArray h Q' rm.cells rm.slots) (eT : T.heap = h) {W : Nat} (hf : rm.frames + 1 ≤ R.frames) (hl : W + (maxL + 11) + rm.locals ≤ R.locals) {ps : List FieldType} {r : Option FieldType} (pd : parseMethodDescriptor y.desc = some ⟨ps, r⟩) (hlen : as'.length = ps.length) {stk rest : List Value} (hstk : stk = as'.reverse ++ .ref a :: rest) (hd : decode c.code pc = .ok (.invokespecial index, 3)) (hW : (rest.map fun v => v.category).sum ≤ W) (hsize : Ls.size = c.maxLocals) (hc : cells + rm.cells ≤ R.cells) (hs : slots + rm.slots ≤ R.slots) (hp : pc + 3 = pc')
    (k : ∀ (v : Option Value) (T' : State) (L : List Loc), Stand p l e R s m args below meth c T' (locs ++ L) (cells + rm.cells) (slots + rm.slots) → Q' v T'.heap L → own_G p e below s Q ce sl (T'.setTop (mkF m pc' Ls (v.toList ++ rest)))) : own_G p e below s Q ce sl (T.setTop (mkF m pc Ls stk)) := by
  subst hp hstk
  obtain ⟨v, vm1, ⟨T', L', k', n'⟩, hWm, X', ⟨Lc, hQ', l', y', z'⟩, st'⟩ := X.specialBack hx (y := y) hy1 hown (mvT hZ w1) (mvT hZ w2) (mvT hZ w4) hy (backOf (W := W) hM hZ w4 w3 hf hl) (g := mkF m pc Ls (as'.reverse ++ .ref a :: rest)) rfl hsize (Steps.refl _) (a := a) (argsL := as') (rest := rest) (lenOf pd hlen) rfl (by show 2 * 0 + _ ≤ _; omega) hd (fun _ _ => ⟨rfl, eT, hc, hs⟩)
  dsimp only [Pt.U, Pt.locs, Pt.cells, Pt.slots] at X' l' y' z' hQ'
  subst l' y' z'
  exact own_fw (fun t q => st'.trans q) (k v T' Lc X' hQ')
theorem own_callV (X : Stand p l e R s m args below meth c T locs cells slots) (hx : p.tables.exec = Jvm.exec) (hZ : Z.Warmed39 s.vm) {own C : String} {index : Nat} {y : MethodName} {bytes : ByteArray} {maxL : Nat} {ret : Option FieldType} (hown : s.vm.findClass own = some m.cls) (w1 : (Jvm.Cond.methodLink own index y).before a0 Z = true) (w2 : (Jvm.Cond.declares y).before a0 Z = true) (w3 : (Jvm.Cond.selects C y y).before a0 Z = true) (w4 : (Jvm.Cond.instanceMethod y).before a0 Z = true) (w5 : (Jvm.Cond.initialized y.cls).before a0 Z = true) (w6 : (Jvm.Cond.code y bytes maxL ret).before a0 Z = true) (hy : y.cls ≠ "java/lang/invoke/MethodHandle" ∧ y.cls ≠ "java/lang/invoke/VarHandle") {a : Addr} (E : Exa Z h a C) {rm : Room} {as' : List Value} {Q' : Option Value → Heap → List Loc → Prop} (hM : own_M l Z y bytes maxL ret [] rm (.ref a :: as').toArray h Q' rm.cells rm.slots) (eT : T.heap = h) {W : Nat} (hf : rm.frames + 1 ≤ R.frames) (hl : W + (maxL + 11) + rm.locals ≤ R.locals) {ps : List FieldType} {r : Option FieldType} (pd : parseMethodDescriptor y.desc = some ⟨ps, r⟩) (hlen : as'.length = ps.length) {stk rest : List Value} (hstk : stk = as'.reverse ++ .ref a :: rest) (hd : decode c.code pc = .ok (.invokevirtual index, 3)) (hW : (rest.map fun v => v.category).sum ≤ W) (hsize : Ls.size = c.maxLocals) (hc : cells + rm.cells ≤ R.cells) (hs : slots + rm.slots ≤ R.slots) (hp : pc + 3 = pc')
    (k : ∀ (v : Option Value) (T' : State) (L : List Loc), Stand p l e R s m args below meth c T' (locs ++ L) (cells + rm.cells) (slots + rm.slots) → Q' v T'.heap L → own_G p e below s Q ce sl (T'.setTop (mkF m pc' Ls (v.toList ++ rest)))) : own_G p e below s Q ce sl (T.setTop (mkF m pc Ls stk)) := by
  subst hp hstk
  obtain ⟨cq, kq, qa, qb, qc⟩ := isOf hZ eT E
  obtain ⟨v, vm1, ⟨T', L', k', n'⟩, hWm, X', ⟨Lc, hQ', l', y', z'⟩, st'⟩ := X.virtualBack hx (y := y) (z := y) hown (mvT hZ w1) (mvT hZ w2) (notFace_of_selects (args := #[]) (mvT hZ w3)) (mvT hZ w3) (mvT hZ w4) hy (backOf (W := W) hM hZ w6 w5 hf hl) qa qc (g := mkF m pc Ls (as'.reverse ++ .ref a :: rest)) rfl hsize (Steps.refl _) (argsL := as') (rest := rest) (lenOf pd hlen) rfl (by show 2 * 0 + _ ≤ _; omega) hd (fun _ _ => ⟨rfl, eT, hc, hs⟩)
  dsimp only [Pt.U, Pt.locs, Pt.cells, Pt.slots] at X' l' y' z' hQ'
  subst l' y' z'
  exact own_fw (fun t q => st'.trans q) (k v T' Lc X' hQ')
end OwnHead
theorem od_prog_11_method_1_0 : decode prog_11_method_1_code 0 = .ok (.aload_n 0, 1) := by decide +kernel
theorem od_prog_11_method_1_1 : decode prog_11_method_1_code 1 = .ok (.invokespecial 1, 3) := by decide +kernel
theorem ow_7 {Z : State} {a0 : Array Value} (hw : ∀ d ∈ tables_1, d.before a0 Z = true) : (Jvm.Cond.methodLink "com/example/slot3/slot3/frame/PostChain" (1 : Nat) ({ cls := "java/lang/Object", name := "<init>", desc := "()V" } : Jvm.MethodName)).before a0 Z = true := hw _ (List.mem_of_getElem? (i := 7) rfl)
theorem ow_8 {Z : State} {a0 : Array Value} (hw : ∀ d ∈ tables_1, d.before a0 Z = true) : (Jvm.Cond.instanceMethod ({ cls := "java/lang/Object", name := "<init>", desc := "()V" } : Jvm.MethodName)).before a0 Z = true := hw _ (List.mem_of_getElem? (i := 8) rfl)
theorem ow_9 {Z : State} {a0 : Array Value} (hw : ∀ d ∈ tables_1, d.before a0 Z = true) : (Jvm.Cond.code ({ cls := "java/lang/Object", name := "<init>", desc := "()V" } : Jvm.MethodName) object_method_1_code (1 : Nat) (Option.none : Option Jvm.ClassFile.FieldType)).before a0 Z = true := hw _ (List.mem_of_getElem? (i := 9) rfl)
theorem od_prog_11_method_1_4 : decode prog_11_method_1_code 4 = .ok (.return_, 1) := by decide +kernel
theorem opn_com_example_slot3_slot3_frame_PostChain : plainName "com/example/slot3/slot3/frame/PostChain" = true := by first | (simp [plainName, overriddenIn]; done) | decide +kernel
theorem oef_rm_pci (m : MethodId) (ra : Addr) : entryFrame m #[(.ref ra)] 1 = mkF m 0 #[.val (.ref ra)] [] := by first | (simp [entryFrame, mkF, argsToLocals, Value.category]; done) | rfl
set_option maxRecDepth 65536 in
set_option maxHeartbeats 40000000 in
theorem rm_pci (l : Launch) (Z : State) (a0 : Array Value) (hw : ∀ d ∈ tables_1, d.before a0 Z = true) (ra : Addr) (h0 : Heap) (n0 : Nat) (Z0 : n0 ≤ h0.size)  :
    own_M l Z (⟨"com/example/slot3/slot3/frame/PostChain", "<init>", "()V"⟩ : MethodName) prog_11_method_1_code 1 none [] ({ frames := 1, cells := 0, slots := 0, locals := 12 } : Room) #[(.ref ra)] h0 (fun v h L => v = none ∧ Fr n0 L ∧ (h = h0)) 0 0 := by
  refine own_body (plainFor_of_name opn_com_example_slot3_slot3_frame_PostChain) ?_
  intro p e s m below meth c s1 hx hby hml hown hnm hret hlk hZ X0 e0
  rw [oef_rm_pci m ra]
  have N0 := Fr.nil n0
  refine own_aloadN X0 hx (hb hby od_prog_11_method_1_0) rfl rfl (pc' := 1) rfl ?_
  refine own_initO X0 hx hZ hown (ow_7 hw) (ow_8 hw) (ow_9 hw) e0 (by rw [hml]; rfl) (hb hby od_prog_11_method_1_1) (by decide) (W := 0) (Nat.le_of_eq rfl) (by decide) (pc' := 4) rfl ?_
  intro T1 X1 e1
  exact own_retV X1 hx hret hlk (hb hby od_prog_11_method_1_4) ⟨rfl, N0, e1⟩ (by decide) (by decide)
theorem od_prog_10_method_1_0 : decode prog_10_method_1_code 0 = .ok (.aload_n 0, 1) := by decide +kernel
theorem od_prog_10_method_1_1 : decode prog_10_method_1_code 1 = .ok (.invokespecial 1, 3) := by decide +kernel
theorem ow_16 {Z : State} {a0 : Array Value} (hw : ∀ d ∈ tables_1, d.before a0 Z = true) : (Jvm.Cond.methodLink "com/example/slot3/slot3/frame/Post" (1 : Nat) ({ cls := "java/lang/Object", name := "<init>", desc := "()V" } : Jvm.MethodName)).before a0 Z = true := hw _ (List.mem_of_getElem? (i := 16) rfl)
theorem od_prog_10_method_1_4 : decode prog_10_method_1_code 4 = .ok (.return_, 1) := by decide +kernel
theorem opn_com_example_slot3_slot3_frame_Post : plainName "com/example/slot3/slot3/frame/Post" = true := by first | (simp [plainName, overriddenIn]; done) | decide +kernel
theorem oef_rm_poi (m : MethodId) (ra : Addr) : entryFrame m #[(.ref ra)] 1 = mkF m 0 #[.val (.ref ra)] [] := by first | (simp [entryFrame, mkF, argsToLocals, Value.category]; done) | rfl
set_option maxRecDepth 65536 in
set_option maxHeartbeats 40000000 in
theorem rm_poi (l : Launch) (Z : State) (a0 : Array Value) (hw : ∀ d ∈ tables_1, d.before a0 Z = true) (ra : Addr) (h0 : Heap) (n0 : Nat) (Z0 : n0 ≤ h0.size)  :
    own_M l Z (⟨"com/example/slot3/slot3/frame/Post", "<init>", "()V"⟩ : MethodName) prog_10_method_1_code 1 none [] ({ frames := 1, cells := 0, slots := 0, locals := 12 } : Room) #[(.ref ra)] h0 (fun v h L => v = none ∧ Fr n0 L ∧ (h = h0)) 0 0 := by
  refine own_body (plainFor_of_name opn_com_example_slot3_slot3_frame_Post) ?_
  intro p e s m below meth c s1 hx hby hml hown hnm hret hlk hZ X0 e0
  rw [oef_rm_poi m ra]
  have N0 := Fr.nil n0
  refine own_aloadN X0 hx (hb hby od_prog_10_method_1_0) rfl rfl (pc' := 1) rfl ?_
  refine own_initO X0 hx hZ hown (ow_16 hw) (ow_8 hw) (ow_9 hw) e0 (by rw [hml]; rfl) (hb hby od_prog_10_method_1_1) (by decide) (W := 0) (Nat.le_of_eq rfl) (by decide) (pc' := 4) rfl ?_
  intro T1 X1 e1
  exact own_retV X1 hx hret hlk (hb hby od_prog_10_method_1_4) ⟨rfl, N0, e1⟩ (by decide) (by decide)
theorem od_prog_11_method_3_0 : decode prog_11_method_3_code 0 = .ok (.aload_n 0, 1) := by decide +kernel
theorem od_prog_11_method_3_1 : decode prog_11_method_3_code 1 = .ok (.getfield 13, 3) := by decide +kernel
theorem ow_22 {Z : State} {a0 : Array Value} (hw : ∀ d ∈ tables_1, d.before a0 Z = true) : (Jvm.Cond.fieldLink "com/example/slot3/slot3/frame/PostChain" (13 : Nat) "com/example/slot3/slot3/frame/PostChain" "last" "Lcom/example/slot3/slot3/frame/Post;").before a0 Z = true := hw _ (List.mem_of_getElem? (i := 22) rfl)
theorem od_prog_11_method_3_4 : decode prog_11_method_3_code 4 = .ok (.ifnonnull 11, 3) := by decide +kernel
theorem od_prog_11_method_3_7 : decode prog_11_method_3_code 7 = .ok (.aload_n 0, 1) := by decide +kernel
theorem od_prog_11_method_3_8 : decode prog_11_method_3_code 8 = .ok (.aload_n 1, 1) := by decide +kernel
theorem od_prog_11_method_3_9 : decode prog_11_method_3_code 9 = .ok (.putfield 7, 3) := by decide +kernel
theorem ow_24 {Z : State} {a0 : Array Value} (hw : ∀ d ∈ tables_1, d.before a0 Z = true) : (Jvm.Cond.fieldLink "com/example/slot3/slot3/frame/PostChain" (7 : Nat) "com/example/slot3/slot3/frame/PostChain" "first" "Lcom/example/slot3/slot3/frame/Post;").before a0 Z = true := hw _ (List.mem_of_getElem? (i := 24) rfl)
theorem ow_25 {Z : State} {a0 : Array Value} (hw : ∀ d ∈ tables_1, d.before a0 Z = true) : (Jvm.Cond.lays "com/example/slot3/slot3/frame/PostChain" "com/example/slot3/slot3/frame/PostChain" "first" "Lcom/example/slot3/slot3/frame/Post;").before a0 Z = true := hw _ (List.mem_of_getElem? (i := 25) rfl)
theorem ow_2 {Z : State} {a0 : Array Value} (hw : ∀ d ∈ tables_1, d.before a0 Z = true) : (Jvm.Cond.instantiable "com/example/slot3/slot3/frame/PostChain" (3 : Nat)).before a0 Z = true := hw _ (List.mem_of_getElem? (i := 2) rfl)
theorem od_prog_11_method_3_12 : decode prog_11_method_3_code 12 = .ok (.goto 11, 3) := by decide +kernel
theorem od_prog_11_method_3_23 : decode prog_11_method_3_code 23 = .ok (.aload_n 1, 1) := by decide +kernel
theorem od_prog_11_method_3_24 : decode prog_11_method_3_code 24 = .ok (.aload_n 0, 1) := by decide +kernel
theorem od_prog_11_method_3_25 : decode prog_11_method_3_code 25 = .ok (.getfield 13, 3) := by decide +kernel
theorem ow_23 {Z : State} {a0 : Array Value} (hw : ∀ d ∈ tables_1, d.before a0 Z = true) : (Jvm.Cond.lays "com/example/slot3/slot3/frame/PostChain" "com/example/slot3/slot3/frame/PostChain" "last" "Lcom/example/slot3/slot3/frame/Post;").before a0 Z = true := hw _ (List.mem_of_getElem? (i := 23) rfl)
theorem osn_0 {Z : State} {a0 : Array Value} (hw : ∀ d ∈ tables_1, d.before a0 Z = true) : RoadKit.slotOf Z "com/example/slot3/slot3/frame/PostChain" "last" "Lcom/example/slot3/slot3/frame/Post;" ≠ RoadKit.slotOf Z "com/example/slot3/slot3/frame/PostChain" "first" "Lcom/example/slot3/slot3/frame/Post;" := slot_ne (C := "com/example/slot3/slot3/frame/PostChain") (Or.inl (ow_23 hw)) (Or.inl (ow_25 hw)) (by decide) (t := (.object "com/example/slot3/slot3/frame/Post")) (t' := (.object "com/example/slot3/slot3/frame/Post")) (by decide) (by decide)
theorem od_prog_11_method_3_28 : decode prog_11_method_3_code 28 = .ok (.putfield 16, 3) := by decide +kernel
theorem ow_26 {Z : State} {a0 : Array Value} (hw : ∀ d ∈ tables_1, d.before a0 Z = true) : (Jvm.Cond.fieldLink "com/example/slot3/slot3/frame/PostChain" (16 : Nat) "com/example/slot3/slot3/frame/Post" "previous" "Lcom/example/slot3/slot3/frame/Post;").before a0 Z = true := hw _ (List.mem_of_getElem? (i := 26) rfl)
theorem ow_27 {Z : State} {a0 : Array Value} (hw : ∀ d ∈ tables_1, d.before a0 Z = true) : (Jvm.Cond.lays "com/example/slot3/slot3/frame/Post" "com/example/slot3/slot3/frame/Post" "previous" "Lcom/example/slot3/slot3/frame/Post;").before a0 Z = true := hw _ (List.mem_of_getElem? (i := 27) rfl)
theorem ow_11 {Z : State} {a0 : Array Value} (hw : ∀ d ∈ tables_1, d.before a0 Z = true) : (Jvm.Cond.instantiable "com/example/slot3/slot3/frame/Post" (20 : Nat)).before a0 Z = true := hw _ (List.mem_of_getElem? (i := 11) rfl)
theorem od_prog_11_method_3_31 : decode prog_11_method_3_code 31 = .ok (.aload_n 0, 1) := by decide +kernel
theorem od_prog_11_method_3_32 : decode prog_11_method_3_code 32 = .ok (.aload_n 1, 1) := by decide +kernel
theorem od_prog_11_method_3_33 : decode prog_11_method_3_code 33 = .ok (.putfield 13, 3) := by decide +kernel
theorem od_prog_11_method_3_36 : decode prog_11_method_3_code 36 = .ok (.aload_n 1, 1) := by decide +kernel
theorem od_prog_11_method_3_37 : decode prog_11_method_3_code 37 = .ok (.aload_n 0, 1) := by decide +kernel
theorem od_prog_11_method_3_38 : decode prog_11_method_3_code 38 = .ok (.putfield 24, 3) := by decide +kernel
theorem ow_28 {Z : State} {a0 : Array Value} (hw : ∀ d ∈ tables_1, d.before a0 Z = true) : (Jvm.Cond.fieldLink "com/example/slot3/slot3/frame/PostChain" (24 : Nat) "com/example/slot3/slot3/frame/Post" "chain" "Lcom/example/slot3/slot3/frame/PostChain;").before a0 Z = true := hw _ (List.mem_of_getElem? (i := 28) rfl)
theorem ow_29 {Z : State} {a0 : Array Value} (hw : ∀ d ∈ tables_1, d.before a0 Z = true) : (Jvm.Cond.lays "com/example/slot3/slot3/frame/Post" "com/example/slot3/slot3/frame/Post" "chain" "Lcom/example/slot3/slot3/frame/PostChain;").before a0 Z = true := hw _ (List.mem_of_getElem? (i := 29) rfl)
theorem osn_1 {Z : State} {a0 : Array Value} (hw : ∀ d ∈ tables_1, d.before a0 Z = true) : RoadKit.slotOf Z "com/example/slot3/slot3/frame/Post" "chain" "Lcom/example/slot3/slot3/frame/PostChain;" ≠ RoadKit.slotOf Z "com/example/slot3/slot3/frame/Post" "previous" "Lcom/example/slot3/slot3/frame/Post;" := slot_ne (C := "com/example/slot3/slot3/frame/Post") (Or.inl (ow_29 hw)) (Or.inl (ow_27 hw)) (by decide) (t := (.object "com/example/slot3/slot3/frame/PostChain")) (t' := (.object "com/example/slot3/slot3/frame/Post")) (by decide) (by decide)
theorem od_prog_11_method_3_41 : decode prog_11_method_3_code 41 = .ok (.aload_n 0, 1) := by decide +kernel
theorem od_prog_11_method_3_42 : decode prog_11_method_3_code 42 = .ok (.dup, 1) := by decide +kernel
theorem od_prog_11_method_3_43 : decode prog_11_method_3_code 43 = .ok (.getfield 28, 3) := by decide +kernel
theorem ow_30 {Z : State} {a0 : Array Value} (hw : ∀ d ∈ tables_1, d.before a0 Z = true) : (Jvm.Cond.fieldLink "com/example/slot3/slot3/frame/PostChain" (28 : Nat) "com/example/slot3/slot3/frame/PostChain" "count" "I").before a0 Z = true := hw _ (List.mem_of_getElem? (i := 30) rfl)
theorem ow_31 {Z : State} {a0 : Array Value} (hw : ∀ d ∈ tables_1, d.before a0 Z = true) : (Jvm.Cond.lays "com/example/slot3/slot3/frame/PostChain" "com/example/slot3/slot3/frame/PostChain" "count" "I").before a0 Z = true := hw _ (List.mem_of_getElem? (i := 31) rfl)
theorem osn_2 {Z : State} {a0 : Array Value} (hw : ∀ d ∈ tables_1, d.before a0 Z = true) : RoadKit.slotOf Z "com/example/slot3/slot3/frame/PostChain" "count" "I" ≠ RoadKit.slotOf Z "com/example/slot3/slot3/frame/PostChain" "first" "Lcom/example/slot3/slot3/frame/Post;" := slot_ne (C := "com/example/slot3/slot3/frame/PostChain") (Or.inl (ow_31 hw)) (Or.inl (ow_25 hw)) (by decide) (t := .int) (t' := (.object "com/example/slot3/slot3/frame/Post")) (by decide) (by decide)
theorem osn_3 {Z : State} {a0 : Array Value} (hw : ∀ d ∈ tables_1, d.before a0 Z = true) : RoadKit.slotOf Z "com/example/slot3/slot3/frame/PostChain" "count" "I" ≠ RoadKit.slotOf Z "com/example/slot3/slot3/frame/PostChain" "last" "Lcom/example/slot3/slot3/frame/Post;" := slot_ne (C := "com/example/slot3/slot3/frame/PostChain") (Or.inl (ow_31 hw)) (Or.inl (ow_23 hw)) (by decide) (t := .int) (t' := (.object "com/example/slot3/slot3/frame/Post")) (by decide) (by decide)
theorem od_prog_11_method_3_46 : decode prog_11_method_3_code 46 = .ok (.iconst 1, 1) := by decide +kernel
theorem od_prog_11_method_3_47 : decode prog_11_method_3_code 47 = .ok (.iadd, 1) := by decide +kernel
theorem od_prog_11_method_3_48 : decode prog_11_method_3_code 48 = .ok (.putfield 28, 3) := by decide +kernel
theorem od_prog_11_method_3_51 : decode prog_11_method_3_code 51 = .ok (.return_, 1) := by decide +kernel
theorem osn_4 {Z : State} {a0 : Array Value} (hw : ∀ d ∈ tables_1, d.before a0 Z = true) : RoadKit.slotOf Z "com/example/slot3/slot3/frame/PostChain" "first" "Lcom/example/slot3/slot3/frame/Post;" ≠ RoadKit.slotOf Z "com/example/slot3/slot3/frame/PostChain" "last" "Lcom/example/slot3/slot3/frame/Post;" := slot_ne (C := "com/example/slot3/slot3/frame/PostChain") (Or.inl (ow_25 hw)) (Or.inl (ow_23 hw)) (by decide) (t := (.object "com/example/slot3/slot3/frame/Post")) (t' := (.object "com/example/slot3/slot3/frame/Post")) (by decide) (by decide)
theorem osn_5 {Z : State} {a0 : Array Value} (hw : ∀ d ∈ tables_1, d.before a0 Z = true) : RoadKit.slotOf Z "com/example/slot3/slot3/frame/PostChain" "first" "Lcom/example/slot3/slot3/frame/Post;" ≠ RoadKit.slotOf Z "com/example/slot3/slot3/frame/PostChain" "count" "I" := slot_ne (C := "com/example/slot3/slot3/frame/PostChain") (Or.inl (ow_25 hw)) (Or.inl (ow_31 hw)) (by decide) (t := (.object "com/example/slot3/slot3/frame/Post")) (t' := .int) (by decide) (by decide)
theorem osn_6 {Z : State} {a0 : Array Value} (hw : ∀ d ∈ tables_1, d.before a0 Z = true) : RoadKit.slotOf Z "com/example/slot3/slot3/frame/PostChain" "last" "Lcom/example/slot3/slot3/frame/Post;" ≠ RoadKit.slotOf Z "com/example/slot3/slot3/frame/PostChain" "count" "I" := slot_ne (C := "com/example/slot3/slot3/frame/PostChain") (Or.inl (ow_23 hw)) (Or.inl (ow_31 hw)) (by decide) (t := (.object "com/example/slot3/slot3/frame/Post")) (t' := .int) (by decide) (by decide)
theorem ow_38 {Z : State} {a0 : Array Value} (hw : ∀ d ∈ tables_1, d.before a0 Z = true) : (Jvm.Cond.lays "com/example/slot3/slot3/frame/Post" "com/example/slot3/slot3/frame/Post" "following" "Lcom/example/slot3/slot3/frame/Post;").before a0 Z = true := hw _ (List.mem_of_getElem? (i := 38) rfl)
theorem osn_7 {Z : State} {a0 : Array Value} (hw : ∀ d ∈ tables_1, d.before a0 Z = true) : RoadKit.slotOf Z "com/example/slot3/slot3/frame/Post" "following" "Lcom/example/slot3/slot3/frame/Post;" ≠ RoadKit.slotOf Z "com/example/slot3/slot3/frame/Post" "previous" "Lcom/example/slot3/slot3/frame/Post;" := slot_ne (C := "com/example/slot3/slot3/frame/Post") (Or.inl (ow_38 hw)) (Or.inl (ow_27 hw)) (by decide) (t := (.object "com/example/slot3/slot3/frame/Post")) (t' := (.object "com/example/slot3/slot3/frame/Post")) (by decide) (by decide)
theorem osn_8 {Z : State} {a0 : Array Value} (hw : ∀ d ∈ tables_1, d.before a0 Z = true) : RoadKit.slotOf Z "com/example/slot3/slot3/frame/Post" "following" "Lcom/example/slot3/slot3/frame/Post;" ≠ RoadKit.slotOf Z "com/example/slot3/slot3/frame/Post" "chain" "Lcom/example/slot3/slot3/frame/PostChain;" := slot_ne (C := "com/example/slot3/slot3/frame/Post") (Or.inl (ow_38 hw)) (Or.inl (ow_29 hw)) (by decide) (t := (.object "com/example/slot3/slot3/frame/Post")) (t' := (.object "com/example/slot3/slot3/frame/PostChain")) (by decide) (by decide)
theorem osn_9 {Z : State} {a0 : Array Value} (hw : ∀ d ∈ tables_1, d.before a0 Z = true) : RoadKit.slotOf Z "com/example/slot3/slot3/frame/Post" "previous" "Lcom/example/slot3/slot3/frame/Post;" ≠ RoadKit.slotOf Z "com/example/slot3/slot3/frame/Post" "chain" "Lcom/example/slot3/slot3/frame/PostChain;" := slot_ne (C := "com/example/slot3/slot3/frame/Post") (Or.inl (ow_27 hw)) (Or.inl (ow_29 hw)) (by decide) (t := (.object "com/example/slot3/slot3/frame/Post")) (t' := (.object "com/example/slot3/slot3/frame/PostChain")) (by decide) (by decide)
theorem oef_rm_ap1 (m : MethodId) (rc : Addr) (rp : Addr) : entryFrame m #[(.ref rc), (.ref rp)] 2 = mkF m 0 #[.val (.ref rc), .val (.ref rp)] [] := by first | (simp [entryFrame, mkF, argsToLocals, Value.category]; done) | rfl
set_option maxRecDepth 65536 in
set_option maxHeartbeats 40000000 in
theorem rm_ap1 (l : Launch) (Z : State) (a0 : Array Value) (hw : ∀ d ∈ tables_1, d.before a0 Z = true) (rc : Addr) (rp : Addr) (u0 : Int32) (w0 : Value) (w1 : Value) (w2 : Value) (w3 : Value) (h0 : Heap) (n0 : Nat) (Z0 : n0 ≤ h0.size) (P0 : Exa Z h0 rc "com/example/slot3/slot3/frame/PostChain") (P1 : Exa Z h0 rp "com/example/slot3/slot3/frame/Post") (P2 : Fld Z h0 rc "com/example/slot3/slot3/frame/PostChain" "first" "Lcom/example/slot3/slot3/frame/Post;" (w0)) (P3 : Fld Z h0 rc "com/example/slot3/slot3/frame/PostChain" "last" "Lcom/example/slot3/slot3/frame/Post;" (.null)) (P4 : Fld Z h0 rc "com/example/slot3/slot3/frame/PostChain" "count" "I" (.int u0)) (P5 : Fld Z h0 rp "com/example/slot3/slot3/frame/Post" "following" "Lcom/example/slot3/slot3/frame/Post;" (w1)) (P6 : Fld Z h0 rp "com/example/slot3/slot3/frame/Post" "previous" "Lcom/example/slot3/slot3/frame/Post;" (w2)) (P7 : Fld Z h0 rp "com/example/slot3/slot3/frame/Post" "chain" "Lcom/example/slot3/slot3/frame/PostChain;" (w3)) (g_rc : n0 ≤ rc) (g_rp : n0 ≤ rp) (ne_rc_rp : rc ≠ rp) :
    own_M l Z (⟨"com/example/slot3/slot3/frame/PostChain", "append", "(Lcom/example/slot3/slot3/frame/Post;)V"⟩ : MethodName) prog_11_method_3_code 2 none [] ({ frames := 0, cells := 0, slots := 0, locals := 0 } : Room) #[(.ref rc), (.ref rp)] h0 (fun v h L => v = none ∧ Fr n0 L ∧ (Keep h0 h [rc, rp]) ∧ (Fld Z h rc "com/example/slot3/slot3/frame/PostChain" "first" "Lcom/example/slot3/slot3/frame/Post;" (.ref rp)) ∧ (Fld Z h rc "com/example/slot3/slot3/frame/PostChain" "last" "Lcom/example/slot3/slot3/frame/Post;" (.ref rp)) ∧ (Fld Z h rc "com/example/slot3/slot3/frame/PostChain" "count" "I" (.int (u0 + (1 : Int32)))) ∧ (Fld Z h rp "com/example/slot3/slot3/frame/Post" "following" "Lcom/example/slot3/slot3/frame/Post;" (w1)) ∧ (Fld Z h rp "com/example/slot3/slot3/frame/Post" "previous" "Lcom/example/slot3/slot3/frame/Post;" (.null)) ∧ (Fld Z h rp "com/example/slot3/slot3/frame/Post" "chain" "Lcom/example/slot3/slot3/frame/PostChain;" (.ref rc))) 0 0 := by
  refine own_body (plainFor_of_name opn_com_example_slot3_slot3_frame_PostChain) ?_
  intro p e s m below meth c s1 hx hby hml hown hnm hret hlk hZ X0 e0
  rw [oef_rm_ap1 m rc rp]
  have N0 := Fr.nil n0
  refine own_aloadN X0 hx (hb hby od_prog_11_method_3_0) rfl rfl (pc' := 1) rfl ?_
  refine own_getF X0 hx hZ hown (ow_22 hw) e0 P3 (hb hby od_prog_11_method_3_1) (pc' := 4) rfl ?_
  intro T1 X1 e1
  refine own_ifnonnullF X1 hx (hb hby od_prog_11_method_3_4) (pc' := 7) rfl ?_
  refine own_aloadN X1 hx (hb hby od_prog_11_method_3_7) rfl rfl (pc' := 8) rfl ?_
  refine own_aloadN X1 hx (hb hby od_prog_11_method_3_8) rfl rfl (pc' := 9) rfl ?_
  refine own_putF X1 hx hZ hown (ow_24 hw) e1 P2 P0 (Or.inl (ow_25 hw)) (ow_2 hw) (ty := (.object "com/example/slot3/slot3/frame/Post")) (by decide) rfl rfl (hb hby od_prog_11_method_3_9) (pc' := 12) rfl ?_
  intro T2 h2 X2 e2 W2
  have N2 := Fr.snoc X2 N0 g_rc
  refine own_goto X2 hx (hb hby od_prog_11_method_3_12) (by decide) (pc' := 23) rfl ?_
  refine own_aloadN X2 hx (hb hby od_prog_11_method_3_23) rfl rfl (pc' := 24) rfl ?_
  refine own_aloadN X2 hx (hb hby od_prog_11_method_3_24) rfl rfl (pc' := 25) rfl ?_
  have f3 : Fld Z h2 rc "com/example/slot3/slot3/frame/PostChain" "last" "Lcom/example/slot3/slot3/frame/Post;" (.null) := (P3.other W2 (Or.inr (osn_0 hw)))
  refine own_getF X2 hx hZ hown (ow_22 hw) e2 f3 (hb hby od_prog_11_method_3_25) (pc' := 28) rfl ?_
  intro T4 X4 e4
  have f5 : Fld Z h2 rp "com/example/slot3/slot3/frame/Post" "previous" "Lcom/example/slot3/slot3/frame/Post;" (w2) := (P6.other W2 (Or.inl (Ne.symm ne_rc_rp)))
  have f6 : Exa Z h2 rp "com/example/slot3/slot3/frame/Post" := (P1.wr W2)
  refine own_putF X4 hx hZ hown (ow_26 hw) e4 f5 f6 (Or.inl (ow_27 hw)) (ow_11 hw) (ty := (.object "com/example/slot3/slot3/frame/Post")) (by decide) rfl rfl (hb hby od_prog_11_method_3_28) (pc' := 31) rfl ?_
  intro T7 h7 X7 e7 W7
  have N7 := Fr.snoc X7 N2 g_rp
  refine own_aloadN X7 hx (hb hby od_prog_11_method_3_31) rfl rfl (pc' := 32) rfl ?_
  refine own_aloadN X7 hx (hb hby od_prog_11_method_3_32) rfl rfl (pc' := 33) rfl ?_
  have f8 : Fld Z h7 rc "com/example/slot3/slot3/frame/PostChain" "last" "Lcom/example/slot3/slot3/frame/Post;" (.null) := (f3.other W7 (Or.inl ne_rc_rp))
  have f9 : Exa Z h7 rc "com/example/slot3/slot3/frame/PostChain" := ((P0.wr W2).wr W7)
  refine own_putF X7 hx hZ hown (ow_22 hw) e7 f8 f9 (Or.inl (ow_23 hw)) (ow_2 hw) (ty := (.object "com/example/slot3/slot3/frame/Post")) (by decide) rfl rfl (hb hby od_prog_11_method_3_33) (pc' := 36) rfl ?_
  intro T10 h10 X10 e10 W10
  have N10 := Fr.snoc X10 N7 g_rc
  refine own_aloadN X10 hx (hb hby od_prog_11_method_3_36) rfl rfl (pc' := 37) rfl ?_
  refine own_aloadN X10 hx (hb hby od_prog_11_method_3_37) rfl rfl (pc' := 38) rfl ?_
  have f11 : Fld Z h10 rp "com/example/slot3/slot3/frame/Post" "chain" "Lcom/example/slot3/slot3/frame/PostChain;" (w3) := (((P7.other W2 (Or.inl (Ne.symm ne_rc_rp))).other W7 (Or.inr (osn_1 hw))).other W10 (Or.inl (Ne.symm ne_rc_rp)))
  have f12 : Exa Z h10 rp "com/example/slot3/slot3/frame/Post" := ((f6.wr W7).wr W10)
  refine own_putF X10 hx hZ hown (ow_28 hw) e10 f11 f12 (Or.inl (ow_29 hw)) (ow_11 hw) (ty := (.object "com/example/slot3/slot3/frame/PostChain")) (by decide) rfl rfl (hb hby od_prog_11_method_3_38) (pc' := 41) rfl ?_
  intro T13 h13 X13 e13 W13
  have N13 := Fr.snoc X13 N10 g_rp
  refine own_aloadN X13 hx (hb hby od_prog_11_method_3_41) rfl rfl (pc' := 42) rfl ?_
  refine own_dup X13 hx (hb hby od_prog_11_method_3_42) rfl (pc' := 43) rfl ?_
  have f14 : Fld Z h13 rc "com/example/slot3/slot3/frame/PostChain" "count" "I" (.int u0) := ((((P4.other W2 (Or.inr (osn_2 hw))).other W7 (Or.inl ne_rc_rp)).other W10 (Or.inr (osn_3 hw))).other W13 (Or.inl ne_rc_rp))
  refine own_getF X13 hx hZ hown (ow_30 hw) e13 f14 (hb hby od_prog_11_method_3_43) (pc' := 46) rfl ?_
  intro T15 X15 e15
  refine own_iconst X15 hx (hb hby od_prog_11_method_3_46) (z := (1 : Int32)) rfl (pc' := 47) rfl ?_
  refine own_iadd X15 hx (hb hby od_prog_11_method_3_47) (pc' := 48) rfl ?_
  have f16 : Exa Z h13 rc "com/example/slot3/slot3/frame/PostChain" := ((f9.wr W10).wr W13)
  refine own_putF X15 hx hZ hown (ow_30 hw) e15 f14 f16 (Or.inl (ow_31 hw)) (ow_2 hw) (ty := .int) (by decide) rfl rfl (hb hby od_prog_11_method_3_48) (pc' := 51) rfl ?_
  intro T17 h17 X17 e17 W17
  have N17 := Fr.snoc X17 N13 g_rc
  have k23 : Keep h0 h17 [rc, rp] := (Keep.wr (Keep.wr (Keep.wr (Keep.wr (Keep.wr (Keep.refl _ _) W2 (Or.inl (List.mem_of_getElem? (i := 0) rfl))) W7 (Or.inl (List.mem_of_getElem? (i := 1) rfl))) W10 (Or.inl (List.mem_of_getElem? (i := 0) rfl))) W13 (Or.inl (List.mem_of_getElem? (i := 1) rfl))) W17 (Or.inl (List.mem_of_getElem? (i := 0) rfl)))
  have f24 : Fld Z h17 rc "com/example/slot3/slot3/frame/PostChain" "first" "Lcom/example/slot3/slot3/frame/Post;" (.ref rp) := (((((P2.same W2).other W7 (Or.inl ne_rc_rp)).other W10 (Or.inr (osn_4 hw))).other W13 (Or.inl ne_rc_rp)).other W17 (Or.inr (osn_5 hw)))
  have f25 : Fld Z h17 rc "com/example/slot3/slot3/frame/PostChain" "last" "Lcom/example/slot3/slot3/frame/Post;" (.ref rp) := (((f8.same W10).other W13 (Or.inl ne_rc_rp)).other W17 (Or.inr (osn_6 hw)))
  have f26 : Fld Z h17 rp "com/example/slot3/slot3/frame/Post" "following" "Lcom/example/slot3/slot3/frame/Post;" (w1) := (((((P5.other W2 (Or.inl (Ne.symm ne_rc_rp))).other W7 (Or.inr (osn_7 hw))).other W10 (Or.inl (Ne.symm ne_rc_rp))).other W13 (Or.inr (osn_8 hw))).other W17 (Or.inl (Ne.symm ne_rc_rp)))
  have f27 : Fld Z h17 rp "com/example/slot3/slot3/frame/Post" "previous" "Lcom/example/slot3/slot3/frame/Post;" (.null) := ((((f5.same W7).other W10 (Or.inl (Ne.symm ne_rc_rp))).other W13 (Or.inr (osn_9 hw))).other W17 (Or.inl (Ne.symm ne_rc_rp)))
  have f28 : Fld Z h17 rp "com/example/slot3/slot3/frame/Post" "chain" "Lcom/example/slot3/slot3/frame/PostChain;" (.ref rc) := ((f11.same W13).other W17 (Or.inl (Ne.symm ne_rc_rp)))
  exact own_retV X17 hx hret hlk (hb hby od_prog_11_method_3_51) ⟨rfl, N17, (by rw [e17]; exact k23), (by rw [e17]; exact f24), (by rw [e17]; exact f25), (by rw [e17]; exact (f14.same W17)), (by rw [e17]; exact f26), (by rw [e17]; exact f27), (by rw [e17]; exact f28)⟩ (by decide) (by decide)
theorem od_prog_11_method_3_15 : decode prog_11_method_3_code 15 = .ok (.aload_n 0, 1) := by decide +kernel
theorem od_prog_11_method_3_16 : decode prog_11_method_3_code 16 = .ok (.getfield 13, 3) := by decide +kernel
theorem od_prog_11_method_3_19 : decode prog_11_method_3_code 19 = .ok (.aload_n 1, 1) := by decide +kernel
theorem od_prog_11_method_3_20 : decode prog_11_method_3_code 20 = .ok (.putfield 21, 3) := by decide +kernel
theorem ow_37 {Z : State} {a0 : Array Value} (hw : ∀ d ∈ tables_1, d.before a0 Z = true) : (Jvm.Cond.fieldLink "com/example/slot3/slot3/frame/PostChain" (21 : Nat) "com/example/slot3/slot3/frame/Post" "following" "Lcom/example/slot3/slot3/frame/Post;").before a0 Z = true := hw _ (List.mem_of_getElem? (i := 37) rfl)
theorem osn_10 {Z : State} {a0 : Array Value} (hw : ∀ d ∈ tables_1, d.before a0 Z = true) : RoadKit.slotOf Z "com/example/slot3/slot3/frame/Post" "previous" "Lcom/example/slot3/slot3/frame/Post;" ≠ RoadKit.slotOf Z "com/example/slot3/slot3/frame/Post" "following" "Lcom/example/slot3/slot3/frame/Post;" := slot_ne (C := "com/example/slot3/slot3/frame/Post") (Or.inl (ow_27 hw)) (Or.inl (ow_38 hw)) (by decide) (t := (.object "com/example/slot3/slot3/frame/Post")) (t' := (.object "com/example/slot3/slot3/frame/Post")) (by decide) (by decide)
theorem osn_11 {Z : State} {a0 : Array Value} (hw : ∀ d ∈ tables_1, d.before a0 Z = true) : RoadKit.slotOf Z "com/example/slot3/slot3/frame/Post" "chain" "Lcom/example/slot3/slot3/frame/PostChain;" ≠ RoadKit.slotOf Z "com/example/slot3/slot3/frame/Post" "following" "Lcom/example/slot3/slot3/frame/Post;" := slot_ne (C := "com/example/slot3/slot3/frame/Post") (Or.inl (ow_29 hw)) (Or.inl (ow_38 hw)) (by decide) (t := (.object "com/example/slot3/slot3/frame/PostChain")) (t' := (.object "com/example/slot3/slot3/frame/Post")) (by decide) (by decide)
theorem oef_rm_ap2 (m : MethodId) (rc : Addr) (rp : Addr) : entryFrame m #[(.ref rc), (.ref rp)] 2 = mkF m 0 #[.val (.ref rc), .val (.ref rp)] [] := by first | (simp [entryFrame, mkF, argsToLocals, Value.category]; done) | rfl
set_option maxRecDepth 65536 in
set_option maxHeartbeats 40000000 in
theorem rm_ap2 (l : Launch) (Z : State) (a0 : Array Value) (hw : ∀ d ∈ tables_1, d.before a0 Z = true) (rc : Addr) (rp : Addr) (rq : Addr) (u0 : Int32) (w0 : Value) (w1 : Value) (w2 : Value) (w3 : Value) (w4 : Value) (w5 : Value) (w6 : Value) (h0 : Heap) (n0 : Nat) (Z0 : n0 ≤ h0.size) (P0 : Exa Z h0 rc "com/example/slot3/slot3/frame/PostChain") (P1 : Exa Z h0 rp "com/example/slot3/slot3/frame/Post") (P2 : Fld Z h0 rc "com/example/slot3/slot3/frame/PostChain" "first" "Lcom/example/slot3/slot3/frame/Post;" (w0)) (P3 : Fld Z h0 rc "com/example/slot3/slot3/frame/PostChain" "last" "Lcom/example/slot3/slot3/frame/Post;" (.ref rq)) (P4 : Fld Z h0 rc "com/example/slot3/slot3/frame/PostChain" "count" "I" (.int u0)) (P5 : Exa Z h0 rq "com/example/slot3/slot3/frame/Post") (P6 : Fld Z h0 rp "com/example/slot3/slot3/frame/Post" "following" "Lcom/example/slot3/slot3/frame/Post;" (w1)) (P7 : Fld Z h0 rp "com/example/slot3/slot3/frame/Post" "previous" "Lcom/example/slot3/slot3/frame/Post;" (w2)) (P8 : Fld Z h0 rp "com/example/slot3/slot3/frame/Post" "chain" "Lcom/example/slot3/slot3/frame/PostChain;" (w3)) (P9 : Fld Z h0 rq "com/example/slot3/slot3/frame/Post" "following" "Lcom/example/slot3/slot3/frame/Post;" (w4)) (P10 : Fld Z h0 rq "com/example/slot3/slot3/frame/Post" "previous" "Lcom/example/slot3/slot3/frame/Post;" (w5)) (P11 : Fld Z h0 rq "com/example/slot3/slot3/frame/Post" "chain" "Lcom/example/slot3/slot3/frame/PostChain;" (w6)) (g_rc : n0 ≤ rc) (g_rp : n0 ≤ rp) (g_rq : n0 ≤ rq) (ne_rc_rp : rc ≠ rp) (ne_rc_rq : rc ≠ rq) (ne_rp_rq : rp ≠ rq) :
    own_M l Z (⟨"com/example/slot3/slot3/frame/PostChain", "append", "(Lcom/example/slot3/slot3/frame/Post;)V"⟩ : MethodName) prog_11_method_3_code 2 none [] ({ frames := 0, cells := 0, slots := 0, locals := 0 } : Room) #[(.ref rc), (.ref rp)] h0 (fun v h L => v = none ∧ Fr n0 L ∧ (Keep h0 h [rc, rp, rq]) ∧ (Fld Z h rc "com/example/slot3/slot3/frame/PostChain" "first" "Lcom/example/slot3/slot3/frame/Post;" (w0)) ∧ (Fld Z h rc "com/example/slot3/slot3/frame/PostChain" "last" "Lcom/example/slot3/slot3/frame/Post;" (.ref rp)) ∧ (Fld Z h rc "com/example/slot3/slot3/frame/PostChain" "count" "I" (.int (u0 + (1 : Int32)))) ∧ (Fld Z h rp "com/example/slot3/slot3/frame/Post" "following" "Lcom/example/slot3/slot3/frame/Post;" (w1)) ∧ (Fld Z h rp "com/example/slot3/slot3/frame/Post" "previous" "Lcom/example/slot3/slot3/frame/Post;" (.ref rq)) ∧ (Fld Z h rp "com/example/slot3/slot3/frame/Post" "chain" "Lcom/example/slot3/slot3/frame/PostChain;" (.ref rc)) ∧ (Fld Z h rq "com/example/slot3/slot3/frame/Post" "following" "Lcom/example/slot3/slot3/frame/Post;" (.ref rp)) ∧ (Fld Z h rq "com/example/slot3/slot3/frame/Post" "previous" "Lcom/example/slot3/slot3/frame/Post;" (w5)) ∧ (Fld Z h rq "com/example/slot3/slot3/frame/Post" "chain" "Lcom/example/slot3/slot3/frame/PostChain;" (w6))) 0 0 := by
  refine own_body (plainFor_of_name opn_com_example_slot3_slot3_frame_PostChain) ?_
  intro p e s m below meth c s1 hx hby hml hown hnm hret hlk hZ X0 e0
  rw [oef_rm_ap2 m rc rp]
  have N0 := Fr.nil n0
  refine own_aloadN X0 hx (hb hby od_prog_11_method_3_0) rfl rfl (pc' := 1) rfl ?_
  refine own_getF X0 hx hZ hown (ow_22 hw) e0 P3 (hb hby od_prog_11_method_3_1) (pc' := 4) rfl ?_
  intro T1 X1 e1
  refine own_ifnonnullT X1 hx (hb hby od_prog_11_method_3_4) (by decide) (pc' := 15) rfl ?_
  refine own_aloadN X1 hx (hb hby od_prog_11_method_3_15) rfl rfl (pc' := 16) rfl ?_
  refine own_getF X1 hx hZ hown (ow_22 hw) e1 P3 (hb hby od_prog_11_method_3_16) (pc' := 19) rfl ?_
  intro T2 X2 e2
  refine own_aloadN X2 hx (hb hby od_prog_11_method_3_19) rfl rfl (pc' := 20) rfl ?_
  refine own_putF X2 hx hZ hown (ow_37 hw) e2 P9 P5 (Or.inl (ow_38 hw)) (ow_11 hw) (ty := (.object "com/example/slot3/slot3/frame/Post")) (by decide) rfl rfl (hb hby od_prog_11_method_3_20) (pc' := 23) rfl ?_
  intro T3 h3 X3 e3 W3
  have N3 := Fr.snoc X3 N0 g_rq
  refine own_aloadN X3 hx (hb hby od_prog_11_method_3_23) rfl rfl (pc' := 24) rfl ?_
  refine own_aloadN X3 hx (hb hby od_prog_11_method_3_24) rfl rfl (pc' := 25) rfl ?_
  have f4 : Fld Z h3 rc "com/example/slot3/slot3/frame/PostChain" "last" "Lcom/example/slot3/slot3/frame/Post;" (.ref rq) := (P3.other W3 (Or.inl ne_rc_rq))
  refine own_getF X3 hx hZ hown (ow_22 hw) e3 f4 (hb hby od_prog_11_method_3_25) (pc' := 28) rfl ?_
  intro T5 X5 e5
  have f6 : Fld Z h3 rp "com/example/slot3/slot3/frame/Post" "previous" "Lcom/example/slot3/slot3/frame/Post;" (w2) := (P7.other W3 (Or.inl ne_rp_rq))
  have f7 : Exa Z h3 rp "com/example/slot3/slot3/frame/Post" := (P1.wr W3)
  refine own_putF X5 hx hZ hown (ow_26 hw) e5 f6 f7 (Or.inl (ow_27 hw)) (ow_11 hw) (ty := (.object "com/example/slot3/slot3/frame/Post")) (by decide) rfl rfl (hb hby od_prog_11_method_3_28) (pc' := 31) rfl ?_
  intro T8 h8 X8 e8 W8
  have N8 := Fr.snoc X8 N3 g_rp
  refine own_aloadN X8 hx (hb hby od_prog_11_method_3_31) rfl rfl (pc' := 32) rfl ?_
  refine own_aloadN X8 hx (hb hby od_prog_11_method_3_32) rfl rfl (pc' := 33) rfl ?_
  have f9 : Fld Z h8 rc "com/example/slot3/slot3/frame/PostChain" "last" "Lcom/example/slot3/slot3/frame/Post;" (.ref rq) := (f4.other W8 (Or.inl ne_rc_rp))
  have f10 : Exa Z h8 rc "com/example/slot3/slot3/frame/PostChain" := ((P0.wr W3).wr W8)
  refine own_putF X8 hx hZ hown (ow_22 hw) e8 f9 f10 (Or.inl (ow_23 hw)) (ow_2 hw) (ty := (.object "com/example/slot3/slot3/frame/Post")) (by decide) rfl rfl (hb hby od_prog_11_method_3_33) (pc' := 36) rfl ?_
  intro T11 h11 X11 e11 W11
  have N11 := Fr.snoc X11 N8 g_rc
  refine own_aloadN X11 hx (hb hby od_prog_11_method_3_36) rfl rfl (pc' := 37) rfl ?_
  refine own_aloadN X11 hx (hb hby od_prog_11_method_3_37) rfl rfl (pc' := 38) rfl ?_
  have f12 : Fld Z h11 rp "com/example/slot3/slot3/frame/Post" "chain" "Lcom/example/slot3/slot3/frame/PostChain;" (w3) := (((P8.other W3 (Or.inl ne_rp_rq)).other W8 (Or.inr (osn_1 hw))).other W11 (Or.inl (Ne.symm ne_rc_rp)))
  have f13 : Exa Z h11 rp "com/example/slot3/slot3/frame/Post" := ((f7.wr W8).wr W11)
  refine own_putF X11 hx hZ hown (ow_28 hw) e11 f12 f13 (Or.inl (ow_29 hw)) (ow_11 hw) (ty := (.object "com/example/slot3/slot3/frame/PostChain")) (by decide) rfl rfl (hb hby od_prog_11_method_3_38) (pc' := 41) rfl ?_
  intro T14 h14 X14 e14 W14
  have N14 := Fr.snoc X14 N11 g_rp
  refine own_aloadN X14 hx (hb hby od_prog_11_method_3_41) rfl rfl (pc' := 42) rfl ?_
  refine own_dup X14 hx (hb hby od_prog_11_method_3_42) rfl (pc' := 43) rfl ?_
  have f15 : Fld Z h14 rc "com/example/slot3/slot3/frame/PostChain" "count" "I" (.int u0) := ((((P4.other W3 (Or.inl ne_rc_rq)).other W8 (Or.inl ne_rc_rp)).other W11 (Or.inr (osn_3 hw))).other W14 (Or.inl ne_rc_rp))
  refine own_getF X14 hx hZ hown (ow_30 hw) e14 f15 (hb hby od_prog_11_method_3_43) (pc' := 46) rfl ?_
  intro T16 X16 e16
  refine own_iconst X16 hx (hb hby od_prog_11_method_3_46) (z := (1 : Int32)) rfl (pc' := 47) rfl ?_
  refine own_iadd X16 hx (hb hby od_prog_11_method_3_47) (pc' := 48) rfl ?_
  have f17 : Exa Z h14 rc "com/example/slot3/slot3/frame/PostChain" := ((f10.wr W11).wr W14)
  refine own_putF X16 hx hZ hown (ow_30 hw) e16 f15 f17 (Or.inl (ow_31 hw)) (ow_2 hw) (ty := .int) (by decide) rfl rfl (hb hby od_prog_11_method_3_48) (pc' := 51) rfl ?_
  intro T18 h18 X18 e18 W18
  have N18 := Fr.snoc X18 N14 g_rc
  have k24 : Keep h0 h18 [rc, rp, rq] := (Keep.wr (Keep.wr (Keep.wr (Keep.wr (Keep.wr (Keep.refl _ _) W3 (Or.inl (List.mem_of_getElem? (i := 2) rfl))) W8 (Or.inl (List.mem_of_getElem? (i := 1) rfl))) W11 (Or.inl (List.mem_of_getElem? (i := 0) rfl))) W14 (Or.inl (List.mem_of_getElem? (i := 1) rfl))) W18 (Or.inl (List.mem_of_getElem? (i := 0) rfl)))
  have f25 : Fld Z h18 rc "com/example/slot3/slot3/frame/PostChain" "first" "Lcom/example/slot3/slot3/frame/Post;" (w0) := (((((P2.other W3 (Or.inl ne_rc_rq)).other W8 (Or.inl ne_rc_rp)).other W11 (Or.inr (osn_4 hw))).other W14 (Or.inl ne_rc_rp)).other W18 (Or.inr (osn_5 hw)))
  have f26 : Fld Z h18 rc "com/example/slot3/slot3/frame/PostChain" "last" "Lcom/example/slot3/slot3/frame/Post;" (.ref rp) := (((f9.same W11).other W14 (Or.inl ne_rc_rp)).other W18 (Or.inr (osn_6 hw)))
  have f27 : Fld Z h18 rp "com/example/slot3/slot3/frame/Post" "following" "Lcom/example/slot3/slot3/frame/Post;" (w1) := (((((P6.other W3 (Or.inl ne_rp_rq)).other W8 (Or.inr (osn_7 hw))).other W11 (Or.inl (Ne.symm ne_rc_rp))).other W14 (Or.inr (osn_8 hw))).other W18 (Or.inl (Ne.symm ne_rc_rp)))
  have f28 : Fld Z h18 rp "com/example/slot3/slot3/frame/Post" "previous" "Lcom/example/slot3/slot3/frame/Post;" (.ref rq) := ((((f6.same W8).other W11 (Or.inl (Ne.symm ne_rc_rp))).other W14 (Or.inr (osn_9 hw))).other W18 (Or.inl (Ne.symm ne_rc_rp)))
  have f29 : Fld Z h18 rp "com/example/slot3/slot3/frame/Post" "chain" "Lcom/example/slot3/slot3/frame/PostChain;" (.ref rc) := ((f12.same W14).other W18 (Or.inl (Ne.symm ne_rc_rp)))
  have f30 : Fld Z h18 rq "com/example/slot3/slot3/frame/Post" "following" "Lcom/example/slot3/slot3/frame/Post;" (.ref rp) := (((((P9.same W3).other W8 (Or.inl (Ne.symm ne_rp_rq))).other W11 (Or.inl (Ne.symm ne_rc_rq))).other W14 (Or.inl (Ne.symm ne_rp_rq))).other W18 (Or.inl (Ne.symm ne_rc_rq)))
  have f31 : Fld Z h18 rq "com/example/slot3/slot3/frame/Post" "previous" "Lcom/example/slot3/slot3/frame/Post;" (w5) := (((((P10.other W3 (Or.inr (osn_10 hw))).other W8 (Or.inl (Ne.symm ne_rp_rq))).other W11 (Or.inl (Ne.symm ne_rc_rq))).other W14 (Or.inl (Ne.symm ne_rp_rq))).other W18 (Or.inl (Ne.symm ne_rc_rq)))
  have f32 : Fld Z h18 rq "com/example/slot3/slot3/frame/Post" "chain" "Lcom/example/slot3/slot3/frame/PostChain;" (w6) := (((((P11.other W3 (Or.inr (osn_11 hw))).other W8 (Or.inl (Ne.symm ne_rp_rq))).other W11 (Or.inl (Ne.symm ne_rc_rq))).other W14 (Or.inl (Ne.symm ne_rp_rq))).other W18 (Or.inl (Ne.symm ne_rc_rq)))
  exact own_retV X18 hx hret hlk (hb hby od_prog_11_method_3_51) ⟨rfl, N18, (by rw [e18]; exact k24), (by rw [e18]; exact f25), (by rw [e18]; exact f26), (by rw [e18]; exact (f15.same W18)), (by rw [e18]; exact f27), (by rw [e18]; exact f28), (by rw [e18]; exact f29), (by rw [e18]; exact f30), (by rw [e18]; exact f31), (by rw [e18]; exact f32)⟩ (by decide) (by decide)
theorem od_prog_11_method_5_0 : decode prog_11_method_5_code 0 = .ok (.aload_n 1, 1) := by decide +kernel
theorem od_prog_11_method_5_1 : decode prog_11_method_5_code 1 = .ok (.getfield 21, 3) := by decide +kernel
theorem od_prog_11_method_5_4 : decode prog_11_method_5_code 4 = .ok (.astore_n 2, 1) := by decide +kernel
theorem od_prog_11_method_5_5 : decode prog_11_method_5_code 5 = .ok (.aload_n 1, 1) := by decide +kernel
theorem od_prog_11_method_5_6 : decode prog_11_method_5_code 6 = .ok (.getfield 16, 3) := by decide +kernel
theorem od_prog_11_method_5_9 : decode prog_11_method_5_code 9 = .ok (.astore_n 3, 1) := by decide +kernel
theorem od_prog_11_method_5_10 : decode prog_11_method_5_code 10 = .ok (.aload_n 3, 1) := by decide +kernel
theorem od_prog_11_method_5_11 : decode prog_11_method_5_code 11 = .ok (.ifnonnull 11, 3) := by decide +kernel
theorem od_prog_11_method_5_14 : decode prog_11_method_5_code 14 = .ok (.aload_n 0, 1) := by decide +kernel
theorem od_prog_11_method_5_15 : decode prog_11_method_5_code 15 = .ok (.aload_n 2, 1) := by decide +kernel
theorem od_prog_11_method_5_16 : decode prog_11_method_5_code 16 = .ok (.putfield 7, 3) := by decide +kernel
theorem od_prog_11_method_5_19 : decode prog_11_method_5_code 19 = .ok (.goto 8, 3) := by decide +kernel
theorem od_prog_11_method_5_27 : decode prog_11_method_5_code 27 = .ok (.aload_n 2, 1) := by decide +kernel
theorem od_prog_11_method_5_28 : decode prog_11_method_5_code 28 = .ok (.ifnonnull 11, 3) := by decide +kernel
theorem od_prog_11_method_5_31 : decode prog_11_method_5_code 31 = .ok (.aload_n 0, 1) := by decide +kernel
theorem od_prog_11_method_5_32 : decode prog_11_method_5_code 32 = .ok (.aload_n 3, 1) := by decide +kernel
theorem od_prog_11_method_5_33 : decode prog_11_method_5_code 33 = .ok (.putfield 13, 3) := by decide +kernel
theorem od_prog_11_method_5_36 : decode prog_11_method_5_code 36 = .ok (.goto 8, 3) := by decide +kernel
theorem od_prog_11_method_5_44 : decode prog_11_method_5_code 44 = .ok (.aload_n 1, 1) := by decide +kernel
theorem od_prog_11_method_5_45 : decode prog_11_method_5_code 45 = .ok (.aconst_null, 1) := by decide +kernel
theorem od_prog_11_method_5_46 : decode prog_11_method_5_code 46 = .ok (.putfield 21, 3) := by decide +kernel
theorem od_prog_11_method_5_49 : decode prog_11_method_5_code 49 = .ok (.aload_n 1, 1) := by decide +kernel
theorem od_prog_11_method_5_50 : decode prog_11_method_5_code 50 = .ok (.aconst_null, 1) := by decide +kernel
theorem od_prog_11_method_5_51 : decode prog_11_method_5_code 51 = .ok (.putfield 16, 3) := by decide +kernel
theorem od_prog_11_method_5_54 : decode prog_11_method_5_code 54 = .ok (.aload_n 1, 1) := by decide +kernel
theorem od_prog_11_method_5_55 : decode prog_11_method_5_code 55 = .ok (.aconst_null, 1) := by decide +kernel
theorem od_prog_11_method_5_56 : decode prog_11_method_5_code 56 = .ok (.putfield 24, 3) := by decide +kernel
theorem od_prog_11_method_5_59 : decode prog_11_method_5_code 59 = .ok (.aload_n 0, 1) := by decide +kernel
theorem od_prog_11_method_5_60 : decode prog_11_method_5_code 60 = .ok (.dup, 1) := by decide +kernel
theorem od_prog_11_method_5_61 : decode prog_11_method_5_code 61 = .ok (.getfield 28, 3) := by decide +kernel
theorem od_prog_11_method_5_64 : decode prog_11_method_5_code 64 = .ok (.iconst 1, 1) := by decide +kernel
theorem od_prog_11_method_5_65 : decode prog_11_method_5_code 65 = .ok (.isub, 1) := by decide +kernel
theorem od_prog_11_method_5_66 : decode prog_11_method_5_code 66 = .ok (.putfield 28, 3) := by decide +kernel
theorem od_prog_11_method_5_69 : decode prog_11_method_5_code 69 = .ok (.return_, 1) := by decide +kernel
theorem oef_rm_ulnn (m : MethodId) (rc : Addr) (rx : Addr) : entryFrame m #[(.ref rc), (.ref rx)] 4 = mkF m 0 #[.val (.ref rc), .val (.ref rx), .unset, .unset] [] := by first | (simp [entryFrame, mkF, argsToLocals, Value.category]; done) | rfl
set_option maxRecDepth 65536 in
set_option maxHeartbeats 40000000 in
theorem rm_ulnn (l : Launch) (Z : State) (a0 : Array Value) (hw : ∀ d ∈ tables_1, d.before a0 Z = true) (rc : Addr) (rx : Addr) (u0 : Int32) (w0 : Value) (w1 : Value) (w2 : Value) (h0 : Heap) (n0 : Nat) (Z0 : n0 ≤ h0.size) (P0 : Exa Z h0 rc "com/example/slot3/slot3/frame/PostChain") (P1 : Exa Z h0 rx "com/example/slot3/slot3/frame/Post") (P2 : Fld Z h0 rc "com/example/slot3/slot3/frame/PostChain" "first" "Lcom/example/slot3/slot3/frame/Post;" (w0)) (P3 : Fld Z h0 rc "com/example/slot3/slot3/frame/PostChain" "last" "Lcom/example/slot3/slot3/frame/Post;" (w1)) (P4 : Fld Z h0 rc "com/example/slot3/slot3/frame/PostChain" "count" "I" (.int u0)) (P5 : Fld Z h0 rx "com/example/slot3/slot3/frame/Post" "following" "Lcom/example/slot3/slot3/frame/Post;" (.null)) (P6 : Fld Z h0 rx "com/example/slot3/slot3/frame/Post" "previous" "Lcom/example/slot3/slot3/frame/Post;" (.null)) (P7 : Fld Z h0 rx "com/example/slot3/slot3/frame/Post" "chain" "Lcom/example/slot3/slot3/frame/PostChain;" (w2)) (g_rc : n0 ≤ rc) (g_rx : n0 ≤ rx) (ne_rc_rx : rc ≠ rx) :
    own_M l Z (⟨"com/example/slot3/slot3/frame/PostChain", "unlink", "(Lcom/example/slot3/slot3/frame/Post;)V"⟩ : MethodName) prog_11_method_5_code 4 none [] ({ frames := 0, cells := 0, slots := 0, locals := 0 } : Room) #[(.ref rc), (.ref rx)] h0 (fun v h L => v = none ∧ Fr n0 L ∧ (Keep h0 h [rc, rx]) ∧ (Fld Z h rc "com/example/slot3/slot3/frame/PostChain" "first" "Lcom/example/slot3/slot3/frame/Post;" (.null)) ∧ (Fld Z h rc "com/example/slot3/slot3/frame/PostChain" "last" "Lcom/example/slot3/slot3/frame/Post;" (.null)) ∧ (Fld Z h rc "com/example/slot3/slot3/frame/PostChain" "count" "I" (.int (u0 - (1 : Int32)))) ∧ (Fld Z h rx "com/example/slot3/slot3/frame/Post" "following" "Lcom/example/slot3/slot3/frame/Post;" (.null)) ∧ (Fld Z h rx "com/example/slot3/slot3/frame/Post" "previous" "Lcom/example/slot3/slot3/frame/Post;" (.null)) ∧ (Fld Z h rx "com/example/slot3/slot3/frame/Post" "chain" "Lcom/example/slot3/slot3/frame/PostChain;" (.null))) 0 0 := by
  refine own_body (plainFor_of_name opn_com_example_slot3_slot3_frame_PostChain) ?_
  intro p e s m below meth c s1 hx hby hml hown hnm hret hlk hZ X0 e0
  rw [oef_rm_ulnn m rc rx]
  have N0 := Fr.nil n0
  refine own_aloadN X0 hx (hb hby od_prog_11_method_5_0) rfl rfl (pc' := 1) rfl ?_
  refine own_getF X0 hx hZ hown (ow_37 hw) e0 P5 (hb hby od_prog_11_method_5_1) (pc' := 4) rfl ?_
  intro T1 X1 e1
  refine own_astoreN X1 hx (hb hby od_prog_11_method_5_4) rfl (l' := #[.val (.ref rc), .val (.ref rx), .val (.null), .unset]) rfl (pc' := 5) rfl ?_
  refine own_aloadN X1 hx (hb hby od_prog_11_method_5_5) rfl rfl (pc' := 6) rfl ?_
  refine own_getF X1 hx hZ hown (ow_26 hw) e1 P6 (hb hby od_prog_11_method_5_6) (pc' := 9) rfl ?_
  intro T2 X2 e2
  refine own_astoreN X2 hx (hb hby od_prog_11_method_5_9) rfl (l' := #[.val (.ref rc), .val (.ref rx), .val (.null), .val (.null)]) rfl (pc' := 10) rfl ?_
  refine own_aloadN X2 hx (hb hby od_prog_11_method_5_10) rfl rfl (pc' := 11) rfl ?_
  refine own_ifnonnullF X2 hx (hb hby od_prog_11_method_5_11) (pc' := 14) rfl ?_
  refine own_aloadN X2 hx (hb hby od_prog_11_method_5_14) rfl rfl (pc' := 15) rfl ?_
  refine own_aloadN X2 hx (hb hby od_prog_11_method_5_15) rfl rfl (pc' := 16) rfl ?_
  refine own_putF X2 hx hZ hown (ow_24 hw) e2 P2 P0 (Or.inl (ow_25 hw)) (ow_2 hw) (ty := (.object "com/example/slot3/slot3/frame/Post")) (by decide) rfl rfl (hb hby od_prog_11_method_5_16) (pc' := 19) rfl ?_
  intro T3 h3 X3 e3 W3
  have N3 := Fr.snoc X3 N0 g_rc
  refine own_goto X3 hx (hb hby od_prog_11_method_5_19) (by decide) (pc' := 27) rfl ?_
  refine own_aloadN X3 hx (hb hby od_prog_11_method_5_27) rfl rfl (pc' := 28) rfl ?_
  refine own_ifnonnullF X3 hx (hb hby od_prog_11_method_5_28) (pc' := 31) rfl ?_
  refine own_aloadN X3 hx (hb hby od_prog_11_method_5_31) rfl rfl (pc' := 32) rfl ?_
  refine own_aloadN X3 hx (hb hby od_prog_11_method_5_32) rfl rfl (pc' := 33) rfl ?_
  have f4 : Fld Z h3 rc "com/example/slot3/slot3/frame/PostChain" "last" "Lcom/example/slot3/slot3/frame/Post;" (w1) := (P3.other W3 (Or.inr (osn_0 hw)))
  have f5 : Exa Z h3 rc "com/example/slot3/slot3/frame/PostChain" := (P0.wr W3)
  refine own_putF X3 hx hZ hown (ow_22 hw) e3 f4 f5 (Or.inl (ow_23 hw)) (ow_2 hw) (ty := (.object "com/example/slot3/slot3/frame/Post")) (by decide) rfl rfl (hb hby od_prog_11_method_5_33) (pc' := 36) rfl ?_
  intro T6 h6 X6 e6 W6
  have N6 := Fr.snoc X6 N3 g_rc
  refine own_goto X6 hx (hb hby od_prog_11_method_5_36) (by decide) (pc' := 44) rfl ?_
  refine own_aloadN X6 hx (hb hby od_prog_11_method_5_44) rfl rfl (pc' := 45) rfl ?_
  refine own_aconstNull X6 hx (hb hby od_prog_11_method_5_45) (pc' := 46) rfl ?_
  have f7 : Fld Z h6 rx "com/example/slot3/slot3/frame/Post" "following" "Lcom/example/slot3/slot3/frame/Post;" (.null) := ((P5.other W3 (Or.inl (Ne.symm ne_rc_rx))).other W6 (Or.inl (Ne.symm ne_rc_rx)))
  have f8 : Exa Z h6 rx "com/example/slot3/slot3/frame/Post" := ((P1.wr W3).wr W6)
  refine own_putF X6 hx hZ hown (ow_37 hw) e6 f7 f8 (Or.inl (ow_38 hw)) (ow_11 hw) (ty := (.object "com/example/slot3/slot3/frame/Post")) (by decide) rfl rfl (hb hby od_prog_11_method_5_46) (pc' := 49) rfl ?_
  intro T9 h9 X9 e9 W9
  have N9 := Fr.snoc X9 N6 g_rx
  refine own_aloadN X9 hx (hb hby od_prog_11_method_5_49) rfl rfl (pc' := 50) rfl ?_
  refine own_aconstNull X9 hx (hb hby od_prog_11_method_5_50) (pc' := 51) rfl ?_
  have f10 : Fld Z h9 rx "com/example/slot3/slot3/frame/Post" "previous" "Lcom/example/slot3/slot3/frame/Post;" (.null) := (((P6.other W3 (Or.inl (Ne.symm ne_rc_rx))).other W6 (Or.inl (Ne.symm ne_rc_rx))).other W9 (Or.inr (osn_10 hw)))
  have f11 : Exa Z h9 rx "com/example/slot3/slot3/frame/Post" := (f8.wr W9)
  refine own_putF X9 hx hZ hown (ow_26 hw) e9 f10 f11 (Or.inl (ow_27 hw)) (ow_11 hw) (ty := (.object "com/example/slot3/slot3/frame/Post")) (by decide) rfl rfl (hb hby od_prog_11_method_5_51) (pc' := 54) rfl ?_
  intro T12 h12 X12 e12 W12
  have N12 := Fr.snoc X12 N9 g_rx
  refine own_aloadN X12 hx (hb hby od_prog_11_method_5_54) rfl rfl (pc' := 55) rfl ?_
  refine own_aconstNull X12 hx (hb hby od_prog_11_method_5_55) (pc' := 56) rfl ?_
  have f13 : Fld Z h12 rx "com/example/slot3/slot3/frame/Post" "chain" "Lcom/example/slot3/slot3/frame/PostChain;" (w2) := ((((P7.other W3 (Or.inl (Ne.symm ne_rc_rx))).other W6 (Or.inl (Ne.symm ne_rc_rx))).other W9 (Or.inr (osn_11 hw))).other W12 (Or.inr (osn_1 hw)))
  have f14 : Exa Z h12 rx "com/example/slot3/slot3/frame/Post" := (f11.wr W12)
  refine own_putF X12 hx hZ hown (ow_28 hw) e12 f13 f14 (Or.inl (ow_29 hw)) (ow_11 hw) (ty := (.object "com/example/slot3/slot3/frame/PostChain")) (by decide) rfl rfl (hb hby od_prog_11_method_5_56) (pc' := 59) rfl ?_
  intro T15 h15 X15 e15 W15
  have N15 := Fr.snoc X15 N12 g_rx
  refine own_aloadN X15 hx (hb hby od_prog_11_method_5_59) rfl rfl (pc' := 60) rfl ?_
  refine own_dup X15 hx (hb hby od_prog_11_method_5_60) rfl (pc' := 61) rfl ?_
  have f16 : Fld Z h15 rc "com/example/slot3/slot3/frame/PostChain" "count" "I" (.int u0) := (((((P4.other W3 (Or.inr (osn_2 hw))).other W6 (Or.inr (osn_3 hw))).other W9 (Or.inl ne_rc_rx)).other W12 (Or.inl ne_rc_rx)).other W15 (Or.inl ne_rc_rx))
  refine own_getF X15 hx hZ hown (ow_30 hw) e15 f16 (hb hby od_prog_11_method_5_61) (pc' := 64) rfl ?_
  intro T17 X17 e17
  refine own_iconst X17 hx (hb hby od_prog_11_method_5_64) (z := (1 : Int32)) rfl (pc' := 65) rfl ?_
  refine own_isub X17 hx (hb hby od_prog_11_method_5_65) (pc' := 66) rfl ?_
  have f18 : Exa Z h15 rc "com/example/slot3/slot3/frame/PostChain" := ((((f5.wr W6).wr W9).wr W12).wr W15)
  refine own_putF X17 hx hZ hown (ow_30 hw) e17 f16 f18 (Or.inl (ow_31 hw)) (ow_2 hw) (ty := .int) (by decide) rfl rfl (hb hby od_prog_11_method_5_66) (pc' := 69) rfl ?_
  intro T19 h19 X19 e19 W19
  have N19 := Fr.snoc X19 N15 g_rc
  have k26 : Keep h0 h19 [rc, rx] := (Keep.wr (Keep.wr (Keep.wr (Keep.wr (Keep.wr (Keep.wr (Keep.refl _ _) W3 (Or.inl (List.mem_of_getElem? (i := 0) rfl))) W6 (Or.inl (List.mem_of_getElem? (i := 0) rfl))) W9 (Or.inl (List.mem_of_getElem? (i := 1) rfl))) W12 (Or.inl (List.mem_of_getElem? (i := 1) rfl))) W15 (Or.inl (List.mem_of_getElem? (i := 1) rfl))) W19 (Or.inl (List.mem_of_getElem? (i := 0) rfl)))
  have f27 : Fld Z h19 rc "com/example/slot3/slot3/frame/PostChain" "first" "Lcom/example/slot3/slot3/frame/Post;" (.null) := ((((((P2.same W3).other W6 (Or.inr (osn_4 hw))).other W9 (Or.inl ne_rc_rx)).other W12 (Or.inl ne_rc_rx)).other W15 (Or.inl ne_rc_rx)).other W19 (Or.inr (osn_5 hw)))
  have f28 : Fld Z h19 rc "com/example/slot3/slot3/frame/PostChain" "last" "Lcom/example/slot3/slot3/frame/Post;" (.null) := (((((f4.same W6).other W9 (Or.inl ne_rc_rx)).other W12 (Or.inl ne_rc_rx)).other W15 (Or.inl ne_rc_rx)).other W19 (Or.inr (osn_6 hw)))
  have f29 : Fld Z h19 rx "com/example/slot3/slot3/frame/Post" "following" "Lcom/example/slot3/slot3/frame/Post;" (.null) := ((((f7.same W9).other W12 (Or.inr (osn_7 hw))).other W15 (Or.inr (osn_8 hw))).other W19 (Or.inl (Ne.symm ne_rc_rx)))
  have f30 : Fld Z h19 rx "com/example/slot3/slot3/frame/Post" "previous" "Lcom/example/slot3/slot3/frame/Post;" (.null) := (((f10.same W12).other W15 (Or.inr (osn_9 hw))).other W19 (Or.inl (Ne.symm ne_rc_rx)))
  have f31 : Fld Z h19 rx "com/example/slot3/slot3/frame/Post" "chain" "Lcom/example/slot3/slot3/frame/PostChain;" (.null) := ((f13.same W15).other W19 (Or.inl (Ne.symm ne_rc_rx)))
  exact own_retV X19 hx hret hlk (hb hby od_prog_11_method_5_69) ⟨rfl, N19, (by rw [e19]; exact k26), (by rw [e19]; exact f27), (by rw [e19]; exact f28), (by rw [e19]; exact (f16.same W19)), (by rw [e19]; exact f29), (by rw [e19]; exact f30), (by rw [e19]; exact f31)⟩ (by decide) (by decide)
theorem od_prog_11_method_5_39 : decode prog_11_method_5_code 39 = .ok (.aload_n 2, 1) := by decide +kernel
theorem od_prog_11_method_5_40 : decode prog_11_method_5_code 40 = .ok (.aload_n 3, 1) := by decide +kernel
theorem od_prog_11_method_5_41 : decode prog_11_method_5_code 41 = .ok (.putfield 16, 3) := by decide +kernel
theorem oef_rm_ulnr (m : MethodId) (rc : Addr) (rx : Addr) : entryFrame m #[(.ref rc), (.ref rx)] 4 = mkF m 0 #[.val (.ref rc), .val (.ref rx), .unset, .unset] [] := by first | (simp [entryFrame, mkF, argsToLocals, Value.category]; done) | rfl
set_option maxRecDepth 65536 in
set_option maxHeartbeats 40000000 in
theorem rm_ulnr (l : Launch) (Z : State) (a0 : Array Value) (hw : ∀ d ∈ tables_1, d.before a0 Z = true) (rc : Addr) (rx : Addr) (rr : Addr) (u0 : Int32) (w0 : Value) (w1 : Value) (w2 : Value) (w6 : Value) (w7 : Value) (w8 : Value) (h0 : Heap) (n0 : Nat) (Z0 : n0 ≤ h0.size) (P0 : Exa Z h0 rc "com/example/slot3/slot3/frame/PostChain") (P1 : Exa Z h0 rx "com/example/slot3/slot3/frame/Post") (P2 : Fld Z h0 rc "com/example/slot3/slot3/frame/PostChain" "first" "Lcom/example/slot3/slot3/frame/Post;" (w0)) (P3 : Fld Z h0 rc "com/example/slot3/slot3/frame/PostChain" "last" "Lcom/example/slot3/slot3/frame/Post;" (w1)) (P4 : Fld Z h0 rc "com/example/slot3/slot3/frame/PostChain" "count" "I" (.int u0)) (P5 : Fld Z h0 rx "com/example/slot3/slot3/frame/Post" "following" "Lcom/example/slot3/slot3/frame/Post;" (.ref rr)) (P6 : Fld Z h0 rx "com/example/slot3/slot3/frame/Post" "previous" "Lcom/example/slot3/slot3/frame/Post;" (.null)) (P7 : Fld Z h0 rx "com/example/slot3/slot3/frame/Post" "chain" "Lcom/example/slot3/slot3/frame/PostChain;" (w2)) (P8 : Exa Z h0 rr "com/example/slot3/slot3/frame/Post") (P9 : Fld Z h0 rr "com/example/slot3/slot3/frame/Post" "following" "Lcom/example/slot3/slot3/frame/Post;" (w6)) (P10 : Fld Z h0 rr "com/example/slot3/slot3/frame/Post" "previous" "Lcom/example/slot3/slot3/frame/Post;" (w7)) (P11 : Fld Z h0 rr "com/example/slot3/slot3/frame/Post" "chain" "Lcom/example/slot3/slot3/frame/PostChain;" (w8)) (g_rc : n0 ≤ rc) (g_rx : n0 ≤ rx) (g_rr : n0 ≤ rr) (ne_rc_rx : rc ≠ rx) (ne_rc_rr : rc ≠ rr) (ne_rx_rr : rx ≠ rr) :
    own_M l Z (⟨"com/example/slot3/slot3/frame/PostChain", "unlink", "(Lcom/example/slot3/slot3/frame/Post;)V"⟩ : MethodName) prog_11_method_5_code 4 none [] ({ frames := 0, cells := 0, slots := 0, locals := 0 } : Room) #[(.ref rc), (.ref rx)] h0 (fun v h L => v = none ∧ Fr n0 L ∧ (Keep h0 h [rc, rx, rr]) ∧ (Fld Z h rc "com/example/slot3/slot3/frame/PostChain" "first" "Lcom/example/slot3/slot3/frame/Post;" (.ref rr)) ∧ (Fld Z h rc "com/example/slot3/slot3/frame/PostChain" "last" "Lcom/example/slot3/slot3/frame/Post;" (w1)) ∧ (Fld Z h rc "com/example/slot3/slot3/frame/PostChain" "count" "I" (.int (u0 - (1 : Int32)))) ∧ (Fld Z h rx "com/example/slot3/slot3/frame/Post" "following" "Lcom/example/slot3/slot3/frame/Post;" (.null)) ∧ (Fld Z h rx "com/example/slot3/slot3/frame/Post" "previous" "Lcom/example/slot3/slot3/frame/Post;" (.null)) ∧ (Fld Z h rx "com/example/slot3/slot3/frame/Post" "chain" "Lcom/example/slot3/slot3/frame/PostChain;" (.null)) ∧ (Fld Z h rr "com/example/slot3/slot3/frame/Post" "following" "Lcom/example/slot3/slot3/frame/Post;" (w6)) ∧ (Fld Z h rr "com/example/slot3/slot3/frame/Post" "previous" "Lcom/example/slot3/slot3/frame/Post;" (.null)) ∧ (Fld Z h rr "com/example/slot3/slot3/frame/Post" "chain" "Lcom/example/slot3/slot3/frame/PostChain;" (w8))) 0 0 := by
  refine own_body (plainFor_of_name opn_com_example_slot3_slot3_frame_PostChain) ?_
  intro p e s m below meth c s1 hx hby hml hown hnm hret hlk hZ X0 e0
  rw [oef_rm_ulnr m rc rx]
  have N0 := Fr.nil n0
  refine own_aloadN X0 hx (hb hby od_prog_11_method_5_0) rfl rfl (pc' := 1) rfl ?_
  refine own_getF X0 hx hZ hown (ow_37 hw) e0 P5 (hb hby od_prog_11_method_5_1) (pc' := 4) rfl ?_
  intro T1 X1 e1
  refine own_astoreN X1 hx (hb hby od_prog_11_method_5_4) rfl (l' := #[.val (.ref rc), .val (.ref rx), .val (.ref rr), .unset]) rfl (pc' := 5) rfl ?_
  refine own_aloadN X1 hx (hb hby od_prog_11_method_5_5) rfl rfl (pc' := 6) rfl ?_
  refine own_getF X1 hx hZ hown (ow_26 hw) e1 P6 (hb hby od_prog_11_method_5_6) (pc' := 9) rfl ?_
  intro T2 X2 e2
  refine own_astoreN X2 hx (hb hby od_prog_11_method_5_9) rfl (l' := #[.val (.ref rc), .val (.ref rx), .val (.ref rr), .val (.null)]) rfl (pc' := 10) rfl ?_
  refine own_aloadN X2 hx (hb hby od_prog_11_method_5_10) rfl rfl (pc' := 11) rfl ?_
  refine own_ifnonnullF X2 hx (hb hby od_prog_11_method_5_11) (pc' := 14) rfl ?_
  refine own_aloadN X2 hx (hb hby od_prog_11_method_5_14) rfl rfl (pc' := 15) rfl ?_
  refine own_aloadN X2 hx (hb hby od_prog_11_method_5_15) rfl rfl (pc' := 16) rfl ?_
  refine own_putF X2 hx hZ hown (ow_24 hw) e2 P2 P0 (Or.inl (ow_25 hw)) (ow_2 hw) (ty := (.object "com/example/slot3/slot3/frame/Post")) (by decide) rfl rfl (hb hby od_prog_11_method_5_16) (pc' := 19) rfl ?_
  intro T3 h3 X3 e3 W3
  have N3 := Fr.snoc X3 N0 g_rc
  refine own_goto X3 hx (hb hby od_prog_11_method_5_19) (by decide) (pc' := 27) rfl ?_
  refine own_aloadN X3 hx (hb hby od_prog_11_method_5_27) rfl rfl (pc' := 28) rfl ?_
  refine own_ifnonnullT X3 hx (hb hby od_prog_11_method_5_28) (by decide) (pc' := 39) rfl ?_
  refine own_aloadN X3 hx (hb hby od_prog_11_method_5_39) rfl rfl (pc' := 40) rfl ?_
  refine own_aloadN X3 hx (hb hby od_prog_11_method_5_40) rfl rfl (pc' := 41) rfl ?_
  have f4 : Fld Z h3 rr "com/example/slot3/slot3/frame/Post" "previous" "Lcom/example/slot3/slot3/frame/Post;" (w7) := (P10.other W3 (Or.inl (Ne.symm ne_rc_rr)))
  have f5 : Exa Z h3 rr "com/example/slot3/slot3/frame/Post" := (P8.wr W3)
  refine own_putF X3 hx hZ hown (ow_26 hw) e3 f4 f5 (Or.inl (ow_27 hw)) (ow_11 hw) (ty := (.object "com/example/slot3/slot3/frame/Post")) (by decide) rfl rfl (hb hby od_prog_11_method_5_41) (pc' := 44) rfl ?_
  intro T6 h6 X6 e6 W6
  have N6 := Fr.snoc X6 N3 g_rr
  refine own_aloadN X6 hx (hb hby od_prog_11_method_5_44) rfl rfl (pc' := 45) rfl ?_
  refine own_aconstNull X6 hx (hb hby od_prog_11_method_5_45) (pc' := 46) rfl ?_
  have f7 : Fld Z h6 rx "com/example/slot3/slot3/frame/Post" "following" "Lcom/example/slot3/slot3/frame/Post;" (.ref rr) := ((P5.other W3 (Or.inl (Ne.symm ne_rc_rx))).other W6 (Or.inl ne_rx_rr))
  have f8 : Exa Z h6 rx "com/example/slot3/slot3/frame/Post" := ((P1.wr W3).wr W6)
  refine own_putF X6 hx hZ hown (ow_37 hw) e6 f7 f8 (Or.inl (ow_38 hw)) (ow_11 hw) (ty := (.object "com/example/slot3/slot3/frame/Post")) (by decide) rfl rfl (hb hby od_prog_11_method_5_46) (pc' := 49) rfl ?_
  intro T9 h9 X9 e9 W9
  have N9 := Fr.snoc X9 N6 g_rx
  refine own_aloadN X9 hx (hb hby od_prog_11_method_5_49) rfl rfl (pc' := 50) rfl ?_
  refine own_aconstNull X9 hx (hb hby od_prog_11_method_5_50) (pc' := 51) rfl ?_
  have f10 : Fld Z h9 rx "com/example/slot3/slot3/frame/Post" "previous" "Lcom/example/slot3/slot3/frame/Post;" (.null) := (((P6.other W3 (Or.inl (Ne.symm ne_rc_rx))).other W6 (Or.inl ne_rx_rr)).other W9 (Or.inr (osn_10 hw)))
  have f11 : Exa Z h9 rx "com/example/slot3/slot3/frame/Post" := (f8.wr W9)
  refine own_putF X9 hx hZ hown (ow_26 hw) e9 f10 f11 (Or.inl (ow_27 hw)) (ow_11 hw) (ty := (.object "com/example/slot3/slot3/frame/Post")) (by decide) rfl rfl (hb hby od_prog_11_method_5_51) (pc' := 54) rfl ?_
  intro T12 h12 X12 e12 W12
  have N12 := Fr.snoc X12 N9 g_rx
  refine own_aloadN X12 hx (hb hby od_prog_11_method_5_54) rfl rfl (pc' := 55) rfl ?_
  refine own_aconstNull X12 hx (hb hby od_prog_11_method_5_55) (pc' := 56) rfl ?_
  have f13 : Fld Z h12 rx "com/example/slot3/slot3/frame/Post" "chain" "Lcom/example/slot3/slot3/frame/PostChain;" (w2) := ((((P7.other W3 (Or.inl (Ne.symm ne_rc_rx))).other W6 (Or.inl ne_rx_rr)).other W9 (Or.inr (osn_11 hw))).other W12 (Or.inr (osn_1 hw)))
  have f14 : Exa Z h12 rx "com/example/slot3/slot3/frame/Post" := (f11.wr W12)
  refine own_putF X12 hx hZ hown (ow_28 hw) e12 f13 f14 (Or.inl (ow_29 hw)) (ow_11 hw) (ty := (.object "com/example/slot3/slot3/frame/PostChain")) (by decide) rfl rfl (hb hby od_prog_11_method_5_56) (pc' := 59) rfl ?_
  intro T15 h15 X15 e15 W15
  have N15 := Fr.snoc X15 N12 g_rx
  refine own_aloadN X15 hx (hb hby od_prog_11_method_5_59) rfl rfl (pc' := 60) rfl ?_
  refine own_dup X15 hx (hb hby od_prog_11_method_5_60) rfl (pc' := 61) rfl ?_
  have f16 : Fld Z h15 rc "com/example/slot3/slot3/frame/PostChain" "count" "I" (.int u0) := (((((P4.other W3 (Or.inr (osn_2 hw))).other W6 (Or.inl ne_rc_rr)).other W9 (Or.inl ne_rc_rx)).other W12 (Or.inl ne_rc_rx)).other W15 (Or.inl ne_rc_rx))
  refine own_getF X15 hx hZ hown (ow_30 hw) e15 f16 (hb hby od_prog_11_method_5_61) (pc' := 64) rfl ?_
  intro T17 X17 e17
  refine own_iconst X17 hx (hb hby od_prog_11_method_5_64) (z := (1 : Int32)) rfl (pc' := 65) rfl ?_
  refine own_isub X17 hx (hb hby od_prog_11_method_5_65) (pc' := 66) rfl ?_
  have f18 : Exa Z h15 rc "com/example/slot3/slot3/frame/PostChain" := (((((P0.wr W3).wr W6).wr W9).wr W12).wr W15)
  refine own_putF X17 hx hZ hown (ow_30 hw) e17 f16 f18 (Or.inl (ow_31 hw)) (ow_2 hw) (ty := .int) (by decide) rfl rfl (hb hby od_prog_11_method_5_66) (pc' := 69) rfl ?_
  intro T19 h19 X19 e19 W19
  have N19 := Fr.snoc X19 N15 g_rc
  have k26 : Keep h0 h19 [rc, rx, rr] := (Keep.wr (Keep.wr (Keep.wr (Keep.wr (Keep.wr (Keep.wr (Keep.refl _ _) W3 (Or.inl (List.mem_of_getElem? (i := 0) rfl))) W6 (Or.inl (List.mem_of_getElem? (i := 2) rfl))) W9 (Or.inl (List.mem_of_getElem? (i := 1) rfl))) W12 (Or.inl (List.mem_of_getElem? (i := 1) rfl))) W15 (Or.inl (List.mem_of_getElem? (i := 1) rfl))) W19 (Or.inl (List.mem_of_getElem? (i := 0) rfl)))
  have f27 : Fld Z h19 rc "com/example/slot3/slot3/frame/PostChain" "first" "Lcom/example/slot3/slot3/frame/Post;" (.ref rr) := ((((((P2.same W3).other W6 (Or.inl ne_rc_rr)).other W9 (Or.inl ne_rc_rx)).other W12 (Or.inl ne_rc_rx)).other W15 (Or.inl ne_rc_rx)).other W19 (Or.inr (osn_5 hw)))
  have f28 : Fld Z h19 rc "com/example/slot3/slot3/frame/PostChain" "last" "Lcom/example/slot3/slot3/frame/Post;" (w1) := ((((((P3.other W3 (Or.inr (osn_0 hw))).other W6 (Or.inl ne_rc_rr)).other W9 (Or.inl ne_rc_rx)).other W12 (Or.inl ne_rc_rx)).other W15 (Or.inl ne_rc_rx)).other W19 (Or.inr (osn_6 hw)))
  have f29 : Fld Z h19 rx "com/example/slot3/slot3/frame/Post" "following" "Lcom/example/slot3/slot3/frame/Post;" (.null) := ((((f7.same W9).other W12 (Or.inr (osn_7 hw))).other W15 (Or.inr (osn_8 hw))).other W19 (Or.inl (Ne.symm ne_rc_rx)))
  have f30 : Fld Z h19 rx "com/example/slot3/slot3/frame/Post" "previous" "Lcom/example/slot3/slot3/frame/Post;" (.null) := (((f10.same W12).other W15 (Or.inr (osn_9 hw))).other W19 (Or.inl (Ne.symm ne_rc_rx)))
  have f31 : Fld Z h19 rx "com/example/slot3/slot3/frame/Post" "chain" "Lcom/example/slot3/slot3/frame/PostChain;" (.null) := ((f13.same W15).other W19 (Or.inl (Ne.symm ne_rc_rx)))
  have f32 : Fld Z h19 rr "com/example/slot3/slot3/frame/Post" "following" "Lcom/example/slot3/slot3/frame/Post;" (w6) := ((((((P9.other W3 (Or.inl (Ne.symm ne_rc_rr))).other W6 (Or.inr (osn_7 hw))).other W9 (Or.inl (Ne.symm ne_rx_rr))).other W12 (Or.inl (Ne.symm ne_rx_rr))).other W15 (Or.inl (Ne.symm ne_rx_rr))).other W19 (Or.inl (Ne.symm ne_rc_rr)))
  have f33 : Fld Z h19 rr "com/example/slot3/slot3/frame/Post" "previous" "Lcom/example/slot3/slot3/frame/Post;" (.null) := (((((f4.same W6).other W9 (Or.inl (Ne.symm ne_rx_rr))).other W12 (Or.inl (Ne.symm ne_rx_rr))).other W15 (Or.inl (Ne.symm ne_rx_rr))).other W19 (Or.inl (Ne.symm ne_rc_rr)))
  have f34 : Fld Z h19 rr "com/example/slot3/slot3/frame/Post" "chain" "Lcom/example/slot3/slot3/frame/PostChain;" (w8) := ((((((P11.other W3 (Or.inl (Ne.symm ne_rc_rr))).other W6 (Or.inr (osn_1 hw))).other W9 (Or.inl (Ne.symm ne_rx_rr))).other W12 (Or.inl (Ne.symm ne_rx_rr))).other W15 (Or.inl (Ne.symm ne_rx_rr))).other W19 (Or.inl (Ne.symm ne_rc_rr)))
  exact own_retV X19 hx hret hlk (hb hby od_prog_11_method_5_69) ⟨rfl, N19, (by rw [e19]; exact k26), (by rw [e19]; exact f27), (by rw [e19]; exact f28), (by rw [e19]; exact (f16.same W19)), (by rw [e19]; exact f29), (by rw [e19]; exact f30), (by rw [e19]; exact f31), (by rw [e19]; exact f32), (by rw [e19]; exact f33), (by rw [e19]; exact f34)⟩ (by decide) (by decide)
theorem od_prog_11_method_5_22 : decode prog_11_method_5_code 22 = .ok (.aload_n 3, 1) := by decide +kernel
theorem od_prog_11_method_5_23 : decode prog_11_method_5_code 23 = .ok (.aload_n 2, 1) := by decide +kernel
theorem od_prog_11_method_5_24 : decode prog_11_method_5_code 24 = .ok (.putfield 21, 3) := by decide +kernel
theorem oef_rm_ulrn (m : MethodId) (rc : Addr) (rx : Addr) : entryFrame m #[(.ref rc), (.ref rx)] 4 = mkF m 0 #[.val (.ref rc), .val (.ref rx), .unset, .unset] [] := by first | (simp [entryFrame, mkF, argsToLocals, Value.category]; done) | rfl
set_option maxRecDepth 65536 in
set_option maxHeartbeats 40000000 in
theorem rm_ulrn (l : Launch) (Z : State) (a0 : Array Value) (hw : ∀ d ∈ tables_1, d.before a0 Z = true) (rc : Addr) (rx : Addr) (rq : Addr) (u0 : Int32) (w0 : Value) (w1 : Value) (w2 : Value) (w3 : Value) (w4 : Value) (w5 : Value) (h0 : Heap) (n0 : Nat) (Z0 : n0 ≤ h0.size) (P0 : Exa Z h0 rc "com/example/slot3/slot3/frame/PostChain") (P1 : Exa Z h0 rx "com/example/slot3/slot3/frame/Post") (P2 : Fld Z h0 rc "com/example/slot3/slot3/frame/PostChain" "first" "Lcom/example/slot3/slot3/frame/Post;" (w0)) (P3 : Fld Z h0 rc "com/example/slot3/slot3/frame/PostChain" "last" "Lcom/example/slot3/slot3/frame/Post;" (w1)) (P4 : Fld Z h0 rc "com/example/slot3/slot3/frame/PostChain" "count" "I" (.int u0)) (P5 : Fld Z h0 rx "com/example/slot3/slot3/frame/Post" "following" "Lcom/example/slot3/slot3/frame/Post;" (.null)) (P6 : Fld Z h0 rx "com/example/slot3/slot3/frame/Post" "previous" "Lcom/example/slot3/slot3/frame/Post;" (.ref rq)) (P7 : Fld Z h0 rx "com/example/slot3/slot3/frame/Post" "chain" "Lcom/example/slot3/slot3/frame/PostChain;" (w2)) (P8 : Exa Z h0 rq "com/example/slot3/slot3/frame/Post") (P9 : Fld Z h0 rq "com/example/slot3/slot3/frame/Post" "following" "Lcom/example/slot3/slot3/frame/Post;" (w3)) (P10 : Fld Z h0 rq "com/example/slot3/slot3/frame/Post" "previous" "Lcom/example/slot3/slot3/frame/Post;" (w4)) (P11 : Fld Z h0 rq "com/example/slot3/slot3/frame/Post" "chain" "Lcom/example/slot3/slot3/frame/PostChain;" (w5)) (g_rc : n0 ≤ rc) (g_rx : n0 ≤ rx) (g_rq : n0 ≤ rq) (ne_rc_rx : rc ≠ rx) (ne_rc_rq : rc ≠ rq) (ne_rx_rq : rx ≠ rq) :
    own_M l Z (⟨"com/example/slot3/slot3/frame/PostChain", "unlink", "(Lcom/example/slot3/slot3/frame/Post;)V"⟩ : MethodName) prog_11_method_5_code 4 none [] ({ frames := 0, cells := 0, slots := 0, locals := 0 } : Room) #[(.ref rc), (.ref rx)] h0 (fun v h L => v = none ∧ Fr n0 L ∧ (Keep h0 h [rc, rx, rq]) ∧ (Fld Z h rc "com/example/slot3/slot3/frame/PostChain" "first" "Lcom/example/slot3/slot3/frame/Post;" (w0)) ∧ (Fld Z h rc "com/example/slot3/slot3/frame/PostChain" "last" "Lcom/example/slot3/slot3/frame/Post;" (.ref rq)) ∧ (Fld Z h rc "com/example/slot3/slot3/frame/PostChain" "count" "I" (.int (u0 - (1 : Int32)))) ∧ (Fld Z h rx "com/example/slot3/slot3/frame/Post" "following" "Lcom/example/slot3/slot3/frame/Post;" (.null)) ∧ (Fld Z h rx "com/example/slot3/slot3/frame/Post" "previous" "Lcom/example/slot3/slot3/frame/Post;" (.null)) ∧ (Fld Z h rx "com/example/slot3/slot3/frame/Post" "chain" "Lcom/example/slot3/slot3/frame/PostChain;" (.null)) ∧ (Fld Z h rq "com/example/slot3/slot3/frame/Post" "following" "Lcom/example/slot3/slot3/frame/Post;" (.null)) ∧ (Fld Z h rq "com/example/slot3/slot3/frame/Post" "previous" "Lcom/example/slot3/slot3/frame/Post;" (w4)) ∧ (Fld Z h rq "com/example/slot3/slot3/frame/Post" "chain" "Lcom/example/slot3/slot3/frame/PostChain;" (w5))) 0 0 := by
  refine own_body (plainFor_of_name opn_com_example_slot3_slot3_frame_PostChain) ?_
  intro p e s m below meth c s1 hx hby hml hown hnm hret hlk hZ X0 e0
  rw [oef_rm_ulrn m rc rx]
  have N0 := Fr.nil n0
  refine own_aloadN X0 hx (hb hby od_prog_11_method_5_0) rfl rfl (pc' := 1) rfl ?_
  refine own_getF X0 hx hZ hown (ow_37 hw) e0 P5 (hb hby od_prog_11_method_5_1) (pc' := 4) rfl ?_
  intro T1 X1 e1
  refine own_astoreN X1 hx (hb hby od_prog_11_method_5_4) rfl (l' := #[.val (.ref rc), .val (.ref rx), .val (.null), .unset]) rfl (pc' := 5) rfl ?_
  refine own_aloadN X1 hx (hb hby od_prog_11_method_5_5) rfl rfl (pc' := 6) rfl ?_
  refine own_getF X1 hx hZ hown (ow_26 hw) e1 P6 (hb hby od_prog_11_method_5_6) (pc' := 9) rfl ?_
  intro T2 X2 e2
  refine own_astoreN X2 hx (hb hby od_prog_11_method_5_9) rfl (l' := #[.val (.ref rc), .val (.ref rx), .val (.null), .val (.ref rq)]) rfl (pc' := 10) rfl ?_
  refine own_aloadN X2 hx (hb hby od_prog_11_method_5_10) rfl rfl (pc' := 11) rfl ?_
  refine own_ifnonnullT X2 hx (hb hby od_prog_11_method_5_11) (by decide) (pc' := 22) rfl ?_
  refine own_aloadN X2 hx (hb hby od_prog_11_method_5_22) rfl rfl (pc' := 23) rfl ?_
  refine own_aloadN X2 hx (hb hby od_prog_11_method_5_23) rfl rfl (pc' := 24) rfl ?_
  refine own_putF X2 hx hZ hown (ow_37 hw) e2 P9 P8 (Or.inl (ow_38 hw)) (ow_11 hw) (ty := (.object "com/example/slot3/slot3/frame/Post")) (by decide) rfl rfl (hb hby od_prog_11_method_5_24) (pc' := 27) rfl ?_
  intro T3 h3 X3 e3 W3
  have N3 := Fr.snoc X3 N0 g_rq
  refine own_aloadN X3 hx (hb hby od_prog_11_method_5_27) rfl rfl (pc' := 28) rfl ?_
  refine own_ifnonnullF X3 hx (hb hby od_prog_11_method_5_28) (pc' := 31) rfl ?_
  refine own_aloadN X3 hx (hb hby od_prog_11_method_5_31) rfl rfl (pc' := 32) rfl ?_
  refine own_aloadN X3 hx (hb hby od_prog_11_method_5_32) rfl rfl (pc' := 33) rfl ?_
  have f4 : Fld Z h3 rc "com/example/slot3/slot3/frame/PostChain" "last" "Lcom/example/slot3/slot3/frame/Post;" (w1) := (P3.other W3 (Or.inl ne_rc_rq))
  have f5 : Exa Z h3 rc "com/example/slot3/slot3/frame/PostChain" := (P0.wr W3)
  refine own_putF X3 hx hZ hown (ow_22 hw) e3 f4 f5 (Or.inl (ow_23 hw)) (ow_2 hw) (ty := (.object "com/example/slot3/slot3/frame/Post")) (by decide) rfl rfl (hb hby od_prog_11_method_5_33) (pc' := 36) rfl ?_
  intro T6 h6 X6 e6 W6
  have N6 := Fr.snoc X6 N3 g_rc
  refine own_goto X6 hx (hb hby od_prog_11_method_5_36) (by decide) (pc' := 44) rfl ?_
  refine own_aloadN X6 hx (hb hby od_prog_11_method_5_44) rfl rfl (pc' := 45) rfl ?_
  refine own_aconstNull X6 hx (hb hby od_prog_11_method_5_45) (pc' := 46) rfl ?_
  have f7 : Fld Z h6 rx "com/example/slot3/slot3/frame/Post" "following" "Lcom/example/slot3/slot3/frame/Post;" (.null) := ((P5.other W3 (Or.inl ne_rx_rq)).other W6 (Or.inl (Ne.symm ne_rc_rx)))
  have f8 : Exa Z h6 rx "com/example/slot3/slot3/frame/Post" := ((P1.wr W3).wr W6)
  refine own_putF X6 hx hZ hown (ow_37 hw) e6 f7 f8 (Or.inl (ow_38 hw)) (ow_11 hw) (ty := (.object "com/example/slot3/slot3/frame/Post")) (by decide) rfl rfl (hb hby od_prog_11_method_5_46) (pc' := 49) rfl ?_
  intro T9 h9 X9 e9 W9
  have N9 := Fr.snoc X9 N6 g_rx
  refine own_aloadN X9 hx (hb hby od_prog_11_method_5_49) rfl rfl (pc' := 50) rfl ?_
  refine own_aconstNull X9 hx (hb hby od_prog_11_method_5_50) (pc' := 51) rfl ?_
  have f10 : Fld Z h9 rx "com/example/slot3/slot3/frame/Post" "previous" "Lcom/example/slot3/slot3/frame/Post;" (.ref rq) := (((P6.other W3 (Or.inl ne_rx_rq)).other W6 (Or.inl (Ne.symm ne_rc_rx))).other W9 (Or.inr (osn_10 hw)))
  have f11 : Exa Z h9 rx "com/example/slot3/slot3/frame/Post" := (f8.wr W9)
  refine own_putF X9 hx hZ hown (ow_26 hw) e9 f10 f11 (Or.inl (ow_27 hw)) (ow_11 hw) (ty := (.object "com/example/slot3/slot3/frame/Post")) (by decide) rfl rfl (hb hby od_prog_11_method_5_51) (pc' := 54) rfl ?_
  intro T12 h12 X12 e12 W12
  have N12 := Fr.snoc X12 N9 g_rx
  refine own_aloadN X12 hx (hb hby od_prog_11_method_5_54) rfl rfl (pc' := 55) rfl ?_
  refine own_aconstNull X12 hx (hb hby od_prog_11_method_5_55) (pc' := 56) rfl ?_
  have f13 : Fld Z h12 rx "com/example/slot3/slot3/frame/Post" "chain" "Lcom/example/slot3/slot3/frame/PostChain;" (w2) := ((((P7.other W3 (Or.inl ne_rx_rq)).other W6 (Or.inl (Ne.symm ne_rc_rx))).other W9 (Or.inr (osn_11 hw))).other W12 (Or.inr (osn_1 hw)))
  have f14 : Exa Z h12 rx "com/example/slot3/slot3/frame/Post" := (f11.wr W12)
  refine own_putF X12 hx hZ hown (ow_28 hw) e12 f13 f14 (Or.inl (ow_29 hw)) (ow_11 hw) (ty := (.object "com/example/slot3/slot3/frame/PostChain")) (by decide) rfl rfl (hb hby od_prog_11_method_5_56) (pc' := 59) rfl ?_
  intro T15 h15 X15 e15 W15
  have N15 := Fr.snoc X15 N12 g_rx
  refine own_aloadN X15 hx (hb hby od_prog_11_method_5_59) rfl rfl (pc' := 60) rfl ?_
  refine own_dup X15 hx (hb hby od_prog_11_method_5_60) rfl (pc' := 61) rfl ?_
  have f16 : Fld Z h15 rc "com/example/slot3/slot3/frame/PostChain" "count" "I" (.int u0) := (((((P4.other W3 (Or.inl ne_rc_rq)).other W6 (Or.inr (osn_3 hw))).other W9 (Or.inl ne_rc_rx)).other W12 (Or.inl ne_rc_rx)).other W15 (Or.inl ne_rc_rx))
  refine own_getF X15 hx hZ hown (ow_30 hw) e15 f16 (hb hby od_prog_11_method_5_61) (pc' := 64) rfl ?_
  intro T17 X17 e17
  refine own_iconst X17 hx (hb hby od_prog_11_method_5_64) (z := (1 : Int32)) rfl (pc' := 65) rfl ?_
  refine own_isub X17 hx (hb hby od_prog_11_method_5_65) (pc' := 66) rfl ?_
  have f18 : Exa Z h15 rc "com/example/slot3/slot3/frame/PostChain" := ((((f5.wr W6).wr W9).wr W12).wr W15)
  refine own_putF X17 hx hZ hown (ow_30 hw) e17 f16 f18 (Or.inl (ow_31 hw)) (ow_2 hw) (ty := .int) (by decide) rfl rfl (hb hby od_prog_11_method_5_66) (pc' := 69) rfl ?_
  intro T19 h19 X19 e19 W19
  have N19 := Fr.snoc X19 N15 g_rc
  have k26 : Keep h0 h19 [rc, rx, rq] := (Keep.wr (Keep.wr (Keep.wr (Keep.wr (Keep.wr (Keep.wr (Keep.refl _ _) W3 (Or.inl (List.mem_of_getElem? (i := 2) rfl))) W6 (Or.inl (List.mem_of_getElem? (i := 0) rfl))) W9 (Or.inl (List.mem_of_getElem? (i := 1) rfl))) W12 (Or.inl (List.mem_of_getElem? (i := 1) rfl))) W15 (Or.inl (List.mem_of_getElem? (i := 1) rfl))) W19 (Or.inl (List.mem_of_getElem? (i := 0) rfl)))
  have f27 : Fld Z h19 rc "com/example/slot3/slot3/frame/PostChain" "first" "Lcom/example/slot3/slot3/frame/Post;" (w0) := ((((((P2.other W3 (Or.inl ne_rc_rq)).other W6 (Or.inr (osn_4 hw))).other W9 (Or.inl ne_rc_rx)).other W12 (Or.inl ne_rc_rx)).other W15 (Or.inl ne_rc_rx)).other W19 (Or.inr (osn_5 hw)))
  have f28 : Fld Z h19 rc "com/example/slot3/slot3/frame/PostChain" "last" "Lcom/example/slot3/slot3/frame/Post;" (.ref rq) := (((((f4.same W6).other W9 (Or.inl ne_rc_rx)).other W12 (Or.inl ne_rc_rx)).other W15 (Or.inl ne_rc_rx)).other W19 (Or.inr (osn_6 hw)))
  have f29 : Fld Z h19 rx "com/example/slot3/slot3/frame/Post" "following" "Lcom/example/slot3/slot3/frame/Post;" (.null) := ((((f7.same W9).other W12 (Or.inr (osn_7 hw))).other W15 (Or.inr (osn_8 hw))).other W19 (Or.inl (Ne.symm ne_rc_rx)))
  have f30 : Fld Z h19 rx "com/example/slot3/slot3/frame/Post" "previous" "Lcom/example/slot3/slot3/frame/Post;" (.null) := (((f10.same W12).other W15 (Or.inr (osn_9 hw))).other W19 (Or.inl (Ne.symm ne_rc_rx)))
  have f31 : Fld Z h19 rx "com/example/slot3/slot3/frame/Post" "chain" "Lcom/example/slot3/slot3/frame/PostChain;" (.null) := ((f13.same W15).other W19 (Or.inl (Ne.symm ne_rc_rx)))
  have f32 : Fld Z h19 rq "com/example/slot3/slot3/frame/Post" "following" "Lcom/example/slot3/slot3/frame/Post;" (.null) := ((((((P9.same W3).other W6 (Or.inl (Ne.symm ne_rc_rq))).other W9 (Or.inl (Ne.symm ne_rx_rq))).other W12 (Or.inl (Ne.symm ne_rx_rq))).other W15 (Or.inl (Ne.symm ne_rx_rq))).other W19 (Or.inl (Ne.symm ne_rc_rq)))
  have f33 : Fld Z h19 rq "com/example/slot3/slot3/frame/Post" "previous" "Lcom/example/slot3/slot3/frame/Post;" (w4) := ((((((P10.other W3 (Or.inr (osn_10 hw))).other W6 (Or.inl (Ne.symm ne_rc_rq))).other W9 (Or.inl (Ne.symm ne_rx_rq))).other W12 (Or.inl (Ne.symm ne_rx_rq))).other W15 (Or.inl (Ne.symm ne_rx_rq))).other W19 (Or.inl (Ne.symm ne_rc_rq)))
  have f34 : Fld Z h19 rq "com/example/slot3/slot3/frame/Post" "chain" "Lcom/example/slot3/slot3/frame/PostChain;" (w5) := ((((((P11.other W3 (Or.inr (osn_11 hw))).other W6 (Or.inl (Ne.symm ne_rc_rq))).other W9 (Or.inl (Ne.symm ne_rx_rq))).other W12 (Or.inl (Ne.symm ne_rx_rq))).other W15 (Or.inl (Ne.symm ne_rx_rq))).other W19 (Or.inl (Ne.symm ne_rc_rq)))
  exact own_retV X19 hx hret hlk (hb hby od_prog_11_method_5_69) ⟨rfl, N19, (by rw [e19]; exact k26), (by rw [e19]; exact f27), (by rw [e19]; exact f28), (by rw [e19]; exact (f16.same W19)), (by rw [e19]; exact f29), (by rw [e19]; exact f30), (by rw [e19]; exact f31), (by rw [e19]; exact f32), (by rw [e19]; exact f33), (by rw [e19]; exact f34)⟩ (by decide) (by decide)
theorem oef_rm_ulrr (m : MethodId) (rc : Addr) (rx : Addr) : entryFrame m #[(.ref rc), (.ref rx)] 4 = mkF m 0 #[.val (.ref rc), .val (.ref rx), .unset, .unset] [] := by first | (simp [entryFrame, mkF, argsToLocals, Value.category]; done) | rfl
set_option maxRecDepth 65536 in
set_option maxHeartbeats 40000000 in
theorem rm_ulrr (l : Launch) (Z : State) (a0 : Array Value) (hw : ∀ d ∈ tables_1, d.before a0 Z = true) (rc : Addr) (rx : Addr) (rq : Addr) (rr : Addr) (u0 : Int32) (w0 : Value) (w1 : Value) (w2 : Value) (w3 : Value) (w4 : Value) (w5 : Value) (w6 : Value) (w7 : Value) (w8 : Value) (h0 : Heap) (n0 : Nat) (Z0 : n0 ≤ h0.size) (P0 : Exa Z h0 rc "com/example/slot3/slot3/frame/PostChain") (P1 : Exa Z h0 rx "com/example/slot3/slot3/frame/Post") (P2 : Fld Z h0 rc "com/example/slot3/slot3/frame/PostChain" "first" "Lcom/example/slot3/slot3/frame/Post;" (w0)) (P3 : Fld Z h0 rc "com/example/slot3/slot3/frame/PostChain" "last" "Lcom/example/slot3/slot3/frame/Post;" (w1)) (P4 : Fld Z h0 rc "com/example/slot3/slot3/frame/PostChain" "count" "I" (.int u0)) (P5 : Fld Z h0 rx "com/example/slot3/slot3/frame/Post" "following" "Lcom/example/slot3/slot3/frame/Post;" (.ref rr)) (P6 : Fld Z h0 rx "com/example/slot3/slot3/frame/Post" "previous" "Lcom/example/slot3/slot3/frame/Post;" (.ref rq)) (P7 : Fld Z h0 rx "com/example/slot3/slot3/frame/Post" "chain" "Lcom/example/slot3/slot3/frame/PostChain;" (w2)) (P8 : Exa Z h0 rq "com/example/slot3/slot3/frame/Post") (P9 : Fld Z h0 rq "com/example/slot3/slot3/frame/Post" "following" "Lcom/example/slot3/slot3/frame/Post;" (w3)) (P10 : Fld Z h0 rq "com/example/slot3/slot3/frame/Post" "previous" "Lcom/example/slot3/slot3/frame/Post;" (w4)) (P11 : Fld Z h0 rq "com/example/slot3/slot3/frame/Post" "chain" "Lcom/example/slot3/slot3/frame/PostChain;" (w5)) (P12 : Exa Z h0 rr "com/example/slot3/slot3/frame/Post") (P13 : Fld Z h0 rr "com/example/slot3/slot3/frame/Post" "following" "Lcom/example/slot3/slot3/frame/Post;" (w6)) (P14 : Fld Z h0 rr "com/example/slot3/slot3/frame/Post" "previous" "Lcom/example/slot3/slot3/frame/Post;" (w7)) (P15 : Fld Z h0 rr "com/example/slot3/slot3/frame/Post" "chain" "Lcom/example/slot3/slot3/frame/PostChain;" (w8)) (g_rc : n0 ≤ rc) (g_rx : n0 ≤ rx) (g_rq : n0 ≤ rq) (g_rr : n0 ≤ rr) (ne_rc_rx : rc ≠ rx) (ne_rc_rq : rc ≠ rq) (ne_rc_rr : rc ≠ rr) (ne_rx_rq : rx ≠ rq) (ne_rx_rr : rx ≠ rr) (ne_rq_rr : rq ≠ rr) :
    own_M l Z (⟨"com/example/slot3/slot3/frame/PostChain", "unlink", "(Lcom/example/slot3/slot3/frame/Post;)V"⟩ : MethodName) prog_11_method_5_code 4 none [] ({ frames := 0, cells := 0, slots := 0, locals := 0 } : Room) #[(.ref rc), (.ref rx)] h0 (fun v h L => v = none ∧ Fr n0 L ∧ (Keep h0 h [rc, rx, rq, rr]) ∧ (Fld Z h rc "com/example/slot3/slot3/frame/PostChain" "first" "Lcom/example/slot3/slot3/frame/Post;" (w0)) ∧ (Fld Z h rc "com/example/slot3/slot3/frame/PostChain" "last" "Lcom/example/slot3/slot3/frame/Post;" (w1)) ∧ (Fld Z h rc "com/example/slot3/slot3/frame/PostChain" "count" "I" (.int (u0 - (1 : Int32)))) ∧ (Fld Z h rx "com/example/slot3/slot3/frame/Post" "following" "Lcom/example/slot3/slot3/frame/Post;" (.null)) ∧ (Fld Z h rx "com/example/slot3/slot3/frame/Post" "previous" "Lcom/example/slot3/slot3/frame/Post;" (.null)) ∧ (Fld Z h rx "com/example/slot3/slot3/frame/Post" "chain" "Lcom/example/slot3/slot3/frame/PostChain;" (.null)) ∧ (Fld Z h rq "com/example/slot3/slot3/frame/Post" "following" "Lcom/example/slot3/slot3/frame/Post;" (.ref rr)) ∧ (Fld Z h rq "com/example/slot3/slot3/frame/Post" "previous" "Lcom/example/slot3/slot3/frame/Post;" (w4)) ∧ (Fld Z h rq "com/example/slot3/slot3/frame/Post" "chain" "Lcom/example/slot3/slot3/frame/PostChain;" (w5)) ∧ (Fld Z h rr "com/example/slot3/slot3/frame/Post" "following" "Lcom/example/slot3/slot3/frame/Post;" (w6)) ∧ (Fld Z h rr "com/example/slot3/slot3/frame/Post" "previous" "Lcom/example/slot3/slot3/frame/Post;" (.ref rq)) ∧ (Fld Z h rr "com/example/slot3/slot3/frame/Post" "chain" "Lcom/example/slot3/slot3/frame/PostChain;" (w8))) 0 0 := by
  refine own_body (plainFor_of_name opn_com_example_slot3_slot3_frame_PostChain) ?_
  intro p e s m below meth c s1 hx hby hml hown hnm hret hlk hZ X0 e0
  rw [oef_rm_ulrr m rc rx]
  have N0 := Fr.nil n0
  refine own_aloadN X0 hx (hb hby od_prog_11_method_5_0) rfl rfl (pc' := 1) rfl ?_
  refine own_getF X0 hx hZ hown (ow_37 hw) e0 P5 (hb hby od_prog_11_method_5_1) (pc' := 4) rfl ?_
  intro T1 X1 e1
  refine own_astoreN X1 hx (hb hby od_prog_11_method_5_4) rfl (l' := #[.val (.ref rc), .val (.ref rx), .val (.ref rr), .unset]) rfl (pc' := 5) rfl ?_
  refine own_aloadN X1 hx (hb hby od_prog_11_method_5_5) rfl rfl (pc' := 6) rfl ?_
  refine own_getF X1 hx hZ hown (ow_26 hw) e1 P6 (hb hby od_prog_11_method_5_6) (pc' := 9) rfl ?_
  intro T2 X2 e2
  refine own_astoreN X2 hx (hb hby od_prog_11_method_5_9) rfl (l' := #[.val (.ref rc), .val (.ref rx), .val (.ref rr), .val (.ref rq)]) rfl (pc' := 10) rfl ?_
  refine own_aloadN X2 hx (hb hby od_prog_11_method_5_10) rfl rfl (pc' := 11) rfl ?_
  refine own_ifnonnullT X2 hx (hb hby od_prog_11_method_5_11) (by decide) (pc' := 22) rfl ?_
  refine own_aloadN X2 hx (hb hby od_prog_11_method_5_22) rfl rfl (pc' := 23) rfl ?_
  refine own_aloadN X2 hx (hb hby od_prog_11_method_5_23) rfl rfl (pc' := 24) rfl ?_
  refine own_putF X2 hx hZ hown (ow_37 hw) e2 P9 P8 (Or.inl (ow_38 hw)) (ow_11 hw) (ty := (.object "com/example/slot3/slot3/frame/Post")) (by decide) rfl rfl (hb hby od_prog_11_method_5_24) (pc' := 27) rfl ?_
  intro T3 h3 X3 e3 W3
  have N3 := Fr.snoc X3 N0 g_rq
  refine own_aloadN X3 hx (hb hby od_prog_11_method_5_27) rfl rfl (pc' := 28) rfl ?_
  refine own_ifnonnullT X3 hx (hb hby od_prog_11_method_5_28) (by decide) (pc' := 39) rfl ?_
  refine own_aloadN X3 hx (hb hby od_prog_11_method_5_39) rfl rfl (pc' := 40) rfl ?_
  refine own_aloadN X3 hx (hb hby od_prog_11_method_5_40) rfl rfl (pc' := 41) rfl ?_
  have f4 : Fld Z h3 rr "com/example/slot3/slot3/frame/Post" "previous" "Lcom/example/slot3/slot3/frame/Post;" (w7) := (P14.other W3 (Or.inl (Ne.symm ne_rq_rr)))
  have f5 : Exa Z h3 rr "com/example/slot3/slot3/frame/Post" := (P12.wr W3)
  refine own_putF X3 hx hZ hown (ow_26 hw) e3 f4 f5 (Or.inl (ow_27 hw)) (ow_11 hw) (ty := (.object "com/example/slot3/slot3/frame/Post")) (by decide) rfl rfl (hb hby od_prog_11_method_5_41) (pc' := 44) rfl ?_
  intro T6 h6 X6 e6 W6
  have N6 := Fr.snoc X6 N3 g_rr
  refine own_aloadN X6 hx (hb hby od_prog_11_method_5_44) rfl rfl (pc' := 45) rfl ?_
  refine own_aconstNull X6 hx (hb hby od_prog_11_method_5_45) (pc' := 46) rfl ?_
  have f7 : Fld Z h6 rx "com/example/slot3/slot3/frame/Post" "following" "Lcom/example/slot3/slot3/frame/Post;" (.ref rr) := ((P5.other W3 (Or.inl ne_rx_rq)).other W6 (Or.inl ne_rx_rr))
  have f8 : Exa Z h6 rx "com/example/slot3/slot3/frame/Post" := ((P1.wr W3).wr W6)
  refine own_putF X6 hx hZ hown (ow_37 hw) e6 f7 f8 (Or.inl (ow_38 hw)) (ow_11 hw) (ty := (.object "com/example/slot3/slot3/frame/Post")) (by decide) rfl rfl (hb hby od_prog_11_method_5_46) (pc' := 49) rfl ?_
  intro T9 h9 X9 e9 W9
  have N9 := Fr.snoc X9 N6 g_rx
  refine own_aloadN X9 hx (hb hby od_prog_11_method_5_49) rfl rfl (pc' := 50) rfl ?_
  refine own_aconstNull X9 hx (hb hby od_prog_11_method_5_50) (pc' := 51) rfl ?_
  have f10 : Fld Z h9 rx "com/example/slot3/slot3/frame/Post" "previous" "Lcom/example/slot3/slot3/frame/Post;" (.ref rq) := (((P6.other W3 (Or.inl ne_rx_rq)).other W6 (Or.inl ne_rx_rr)).other W9 (Or.inr (osn_10 hw)))
  have f11 : Exa Z h9 rx "com/example/slot3/slot3/frame/Post" := (f8.wr W9)
  refine own_putF X9 hx hZ hown (ow_26 hw) e9 f10 f11 (Or.inl (ow_27 hw)) (ow_11 hw) (ty := (.object "com/example/slot3/slot3/frame/Post")) (by decide) rfl rfl (hb hby od_prog_11_method_5_51) (pc' := 54) rfl ?_
  intro T12 h12 X12 e12 W12
  have N12 := Fr.snoc X12 N9 g_rx
  refine own_aloadN X12 hx (hb hby od_prog_11_method_5_54) rfl rfl (pc' := 55) rfl ?_
  refine own_aconstNull X12 hx (hb hby od_prog_11_method_5_55) (pc' := 56) rfl ?_
  have f13 : Fld Z h12 rx "com/example/slot3/slot3/frame/Post" "chain" "Lcom/example/slot3/slot3/frame/PostChain;" (w2) := ((((P7.other W3 (Or.inl ne_rx_rq)).other W6 (Or.inl ne_rx_rr)).other W9 (Or.inr (osn_11 hw))).other W12 (Or.inr (osn_1 hw)))
  have f14 : Exa Z h12 rx "com/example/slot3/slot3/frame/Post" := (f11.wr W12)
  refine own_putF X12 hx hZ hown (ow_28 hw) e12 f13 f14 (Or.inl (ow_29 hw)) (ow_11 hw) (ty := (.object "com/example/slot3/slot3/frame/PostChain")) (by decide) rfl rfl (hb hby od_prog_11_method_5_56) (pc' := 59) rfl ?_
  intro T15 h15 X15 e15 W15
  have N15 := Fr.snoc X15 N12 g_rx
  refine own_aloadN X15 hx (hb hby od_prog_11_method_5_59) rfl rfl (pc' := 60) rfl ?_
  refine own_dup X15 hx (hb hby od_prog_11_method_5_60) rfl (pc' := 61) rfl ?_
  have f16 : Fld Z h15 rc "com/example/slot3/slot3/frame/PostChain" "count" "I" (.int u0) := (((((P4.other W3 (Or.inl ne_rc_rq)).other W6 (Or.inl ne_rc_rr)).other W9 (Or.inl ne_rc_rx)).other W12 (Or.inl ne_rc_rx)).other W15 (Or.inl ne_rc_rx))
  refine own_getF X15 hx hZ hown (ow_30 hw) e15 f16 (hb hby od_prog_11_method_5_61) (pc' := 64) rfl ?_
  intro T17 X17 e17
  refine own_iconst X17 hx (hb hby od_prog_11_method_5_64) (z := (1 : Int32)) rfl (pc' := 65) rfl ?_
  refine own_isub X17 hx (hb hby od_prog_11_method_5_65) (pc' := 66) rfl ?_
  have f18 : Exa Z h15 rc "com/example/slot3/slot3/frame/PostChain" := (((((P0.wr W3).wr W6).wr W9).wr W12).wr W15)
  refine own_putF X17 hx hZ hown (ow_30 hw) e17 f16 f18 (Or.inl (ow_31 hw)) (ow_2 hw) (ty := .int) (by decide) rfl rfl (hb hby od_prog_11_method_5_66) (pc' := 69) rfl ?_
  intro T19 h19 X19 e19 W19
  have N19 := Fr.snoc X19 N15 g_rc
  have k26 : Keep h0 h19 [rc, rx, rq, rr] := (Keep.wr (Keep.wr (Keep.wr (Keep.wr (Keep.wr (Keep.wr (Keep.refl _ _) W3 (Or.inl (List.mem_of_getElem? (i := 2) rfl))) W6 (Or.inl (List.mem_of_getElem? (i := 3) rfl))) W9 (Or.inl (List.mem_of_getElem? (i := 1) rfl))) W12 (Or.inl (List.mem_of_getElem? (i := 1) rfl))) W15 (Or.inl (List.mem_of_getElem? (i := 1) rfl))) W19 (Or.inl (List.mem_of_getElem? (i := 0) rfl)))
  have f27 : Fld Z h19 rc "com/example/slot3/slot3/frame/PostChain" "first" "Lcom/example/slot3/slot3/frame/Post;" (w0) := ((((((P2.other W3 (Or.inl ne_rc_rq)).other W6 (Or.inl ne_rc_rr)).other W9 (Or.inl ne_rc_rx)).other W12 (Or.inl ne_rc_rx)).other W15 (Or.inl ne_rc_rx)).other W19 (Or.inr (osn_5 hw)))
  have f28 : Fld Z h19 rc "com/example/slot3/slot3/frame/PostChain" "last" "Lcom/example/slot3/slot3/frame/Post;" (w1) := ((((((P3.other W3 (Or.inl ne_rc_rq)).other W6 (Or.inl ne_rc_rr)).other W9 (Or.inl ne_rc_rx)).other W12 (Or.inl ne_rc_rx)).other W15 (Or.inl ne_rc_rx)).other W19 (Or.inr (osn_6 hw)))
  have f29 : Fld Z h19 rx "com/example/slot3/slot3/frame/Post" "following" "Lcom/example/slot3/slot3/frame/Post;" (.null) := ((((f7.same W9).other W12 (Or.inr (osn_7 hw))).other W15 (Or.inr (osn_8 hw))).other W19 (Or.inl (Ne.symm ne_rc_rx)))
  have f30 : Fld Z h19 rx "com/example/slot3/slot3/frame/Post" "previous" "Lcom/example/slot3/slot3/frame/Post;" (.null) := (((f10.same W12).other W15 (Or.inr (osn_9 hw))).other W19 (Or.inl (Ne.symm ne_rc_rx)))
  have f31 : Fld Z h19 rx "com/example/slot3/slot3/frame/Post" "chain" "Lcom/example/slot3/slot3/frame/PostChain;" (.null) := ((f13.same W15).other W19 (Or.inl (Ne.symm ne_rc_rx)))
  have f32 : Fld Z h19 rq "com/example/slot3/slot3/frame/Post" "following" "Lcom/example/slot3/slot3/frame/Post;" (.ref rr) := ((((((P9.same W3).other W6 (Or.inl ne_rq_rr)).other W9 (Or.inl (Ne.symm ne_rx_rq))).other W12 (Or.inl (Ne.symm ne_rx_rq))).other W15 (Or.inl (Ne.symm ne_rx_rq))).other W19 (Or.inl (Ne.symm ne_rc_rq)))
  have f33 : Fld Z h19 rq "com/example/slot3/slot3/frame/Post" "previous" "Lcom/example/slot3/slot3/frame/Post;" (w4) := ((((((P10.other W3 (Or.inr (osn_10 hw))).other W6 (Or.inl ne_rq_rr)).other W9 (Or.inl (Ne.symm ne_rx_rq))).other W12 (Or.inl (Ne.symm ne_rx_rq))).other W15 (Or.inl (Ne.symm ne_rx_rq))).other W19 (Or.inl (Ne.symm ne_rc_rq)))
  have f34 : Fld Z h19 rq "com/example/slot3/slot3/frame/Post" "chain" "Lcom/example/slot3/slot3/frame/PostChain;" (w5) := ((((((P11.other W3 (Or.inr (osn_11 hw))).other W6 (Or.inl ne_rq_rr)).other W9 (Or.inl (Ne.symm ne_rx_rq))).other W12 (Or.inl (Ne.symm ne_rx_rq))).other W15 (Or.inl (Ne.symm ne_rx_rq))).other W19 (Or.inl (Ne.symm ne_rc_rq)))
  have f35 : Fld Z h19 rr "com/example/slot3/slot3/frame/Post" "following" "Lcom/example/slot3/slot3/frame/Post;" (w6) := ((((((P13.other W3 (Or.inl (Ne.symm ne_rq_rr))).other W6 (Or.inr (osn_7 hw))).other W9 (Or.inl (Ne.symm ne_rx_rr))).other W12 (Or.inl (Ne.symm ne_rx_rr))).other W15 (Or.inl (Ne.symm ne_rx_rr))).other W19 (Or.inl (Ne.symm ne_rc_rr)))
  have f36 : Fld Z h19 rr "com/example/slot3/slot3/frame/Post" "previous" "Lcom/example/slot3/slot3/frame/Post;" (.ref rq) := (((((f4.same W6).other W9 (Or.inl (Ne.symm ne_rx_rr))).other W12 (Or.inl (Ne.symm ne_rx_rr))).other W15 (Or.inl (Ne.symm ne_rx_rr))).other W19 (Or.inl (Ne.symm ne_rc_rr)))
  have f37 : Fld Z h19 rr "com/example/slot3/slot3/frame/Post" "chain" "Lcom/example/slot3/slot3/frame/PostChain;" (w8) := ((((((P15.other W3 (Or.inl (Ne.symm ne_rq_rr))).other W6 (Or.inr (osn_1 hw))).other W9 (Or.inl (Ne.symm ne_rx_rr))).other W12 (Or.inl (Ne.symm ne_rx_rr))).other W15 (Or.inl (Ne.symm ne_rx_rr))).other W19 (Or.inl (Ne.symm ne_rc_rr)))
  exact own_retV X19 hx hret hlk (hb hby od_prog_11_method_5_69) ⟨rfl, N19, (by rw [e19]; exact k26), (by rw [e19]; exact f27), (by rw [e19]; exact f28), (by rw [e19]; exact (f16.same W19)), (by rw [e19]; exact f29), (by rw [e19]; exact f30), (by rw [e19]; exact f31), (by rw [e19]; exact f32), (by rw [e19]; exact f33), (by rw [e19]; exact f34), (by rw [e19]; exact f35), (by rw [e19]; exact f36), (by rw [e19]; exact f37)⟩ (by decide) (by decide)
theorem own_n (a : Int32) : (((a &&& (2147483647 : Int32)) % (3 : Int32)) + (1 : Int32)) = (1 : Int32) ∨ (((a &&& (2147483647 : Int32)) % (3 : Int32)) + (1 : Int32)) = (2 : Int32) ∨ (((a &&& (2147483647 : Int32)) % (3 : Int32)) + (1 : Int32)) = (3 : Int32) := by
  have h := c_mask a 2147483647 31 (by decide) (by decide)
  have h1 := (c_irem (a &&& (2147483647 : Int32)) 3 3 rfl).1 (by omega)
  have h2 := c_iadd ((a &&& (2147483647 : Int32)) % (3 : Int32)) 1
  have h3 := rng32 (((a &&& (2147483647 : Int32)) % (3 : Int32)) + (1 : Int32))
  simp only [Int32.reduceToInt] at h2
  simp only [← Int32.toInt_inj, Int32.reduceToInt]
  omega
theorem own_w1 (a : Int32) : ((a &&& (2147483647 : Int32)) % (1 : Int32)) = (0 : Int32) := by
  have h := c_mask a 2147483647 31 (by decide) (by decide)
  have h1 := (c_irem (a &&& (2147483647 : Int32)) 1 1 rfl).1 (by omega)
  simp only [← Int32.toInt_inj, Int32.reduceToInt]
  omega
theorem own_w2 (a : Int32) : ((a &&& (2147483647 : Int32)) % (2 : Int32)) = (0 : Int32) ∨ ((a &&& (2147483647 : Int32)) % (2 : Int32)) = (1 : Int32) := by
  have h := c_mask a 2147483647 31 (by decide) (by decide)
  have h1 := (c_irem (a &&& (2147483647 : Int32)) 2 2 rfl).1 (by omega)
  simp only [← Int32.toInt_inj, Int32.reduceToInt]
  omega
theorem own_w3 (a : Int32) : ((a &&& (2147483647 : Int32)) % (3 : Int32)) = (0 : Int32) ∨ ((a &&& (2147483647 : Int32)) % (3 : Int32)) = (1 : Int32) ∨ ((a &&& (2147483647 : Int32)) % (3 : Int32)) = (2 : Int32) := by
  have h := c_mask a 2147483647 31 (by decide) (by decide)
  have h1 := (c_irem (a &&& (2147483647 : Int32)) 3 3 rfl).1 (by omega)
  simp only [← Int32.toInt_inj, Int32.reduceToInt]
  omega
theorem ow_0 {Z : State} {a0 : Array Value} (hw : ∀ d ∈ tables_1, d.before a0 Z = true) : (Jvm.Cond.constant "com/example/slot3/slot3/frame/PostChainUnlinkPinLaw" (7 : Nat) (2147483647 : Int32)).before a0 Z = true := hw _ (List.mem_of_getElem? (i := 0) rfl)
theorem ow_1 {Z : State} {a0 : Array Value} (hw : ∀ d ∈ tables_1, d.before a0 Z = true) : (Jvm.Cond.classLink "com/example/slot3/slot3/frame/PostChainUnlinkPinLaw" (8 : Nat) "com/example/slot3/slot3/frame/PostChain").before a0 Z = true := hw _ (List.mem_of_getElem? (i := 1) rfl)
theorem ow_3 {Z : State} {a0 : Array Value} (hw : ∀ d ∈ tables_1, d.before a0 Z = true) : (Jvm.Cond.initialized "com/example/slot3/slot3/frame/PostChain").before a0 Z = true := hw _ (List.mem_of_getElem? (i := 3) rfl)
theorem ow_4 {Z : State} {a0 : Array Value} (hw : ∀ d ∈ tables_1, d.before a0 Z = true) : (Jvm.Cond.methodLink "com/example/slot3/slot3/frame/PostChainUnlinkPinLaw" (10 : Nat) ({ cls := "com/example/slot3/slot3/frame/PostChain", name := "<init>", desc := "()V" } : Jvm.MethodName)).before a0 Z = true := hw _ (List.mem_of_getElem? (i := 4) rfl)
theorem opd___V : parseMethodDescriptor "()V" = some ⟨[], none⟩ := by decide +kernel
theorem ow_5 {Z : State} {a0 : Array Value} (hw : ∀ d ∈ tables_1, d.before a0 Z = true) : (Jvm.Cond.instanceMethod ({ cls := "com/example/slot3/slot3/frame/PostChain", name := "<init>", desc := "()V" } : Jvm.MethodName)).before a0 Z = true := hw _ (List.mem_of_getElem? (i := 5) rfl)
theorem ow_6 {Z : State} {a0 : Array Value} (hw : ∀ d ∈ tables_1, d.before a0 Z = true) : (Jvm.Cond.code ({ cls := "com/example/slot3/slot3/frame/PostChain", name := "<init>", desc := "()V" } : Jvm.MethodName) prog_11_method_1_code (1 : Nat) (Option.none : Option Jvm.ClassFile.FieldType)).before a0 Z = true := hw _ (List.mem_of_getElem? (i := 6) rfl)
theorem ow_10 {Z : State} {a0 : Array Value} (hw : ∀ d ∈ tables_1, d.before a0 Z = true) : (Jvm.Cond.classLink "com/example/slot3/slot3/frame/PostChainUnlinkPinLaw" (11 : Nat) "com/example/slot3/slot3/frame/Post").before a0 Z = true := hw _ (List.mem_of_getElem? (i := 10) rfl)
theorem ow_12 {Z : State} {a0 : Array Value} (hw : ∀ d ∈ tables_1, d.before a0 Z = true) : (Jvm.Cond.initialized "com/example/slot3/slot3/frame/Post").before a0 Z = true := hw _ (List.mem_of_getElem? (i := 12) rfl)
theorem ow_13 {Z : State} {a0 : Array Value} (hw : ∀ d ∈ tables_1, d.before a0 Z = true) : (Jvm.Cond.methodLink "com/example/slot3/slot3/frame/PostChainUnlinkPinLaw" (13 : Nat) ({ cls := "com/example/slot3/slot3/frame/Post", name := "<init>", desc := "()V" } : Jvm.MethodName)).before a0 Z = true := hw _ (List.mem_of_getElem? (i := 13) rfl)
theorem ow_14 {Z : State} {a0 : Array Value} (hw : ∀ d ∈ tables_1, d.before a0 Z = true) : (Jvm.Cond.instanceMethod ({ cls := "com/example/slot3/slot3/frame/Post", name := "<init>", desc := "()V" } : Jvm.MethodName)).before a0 Z = true := hw _ (List.mem_of_getElem? (i := 14) rfl)
theorem ow_15 {Z : State} {a0 : Array Value} (hw : ∀ d ∈ tables_1, d.before a0 Z = true) : (Jvm.Cond.code ({ cls := "com/example/slot3/slot3/frame/Post", name := "<init>", desc := "()V" } : Jvm.MethodName) prog_10_method_1_code (1 : Nat) (Option.none : Option Jvm.ClassFile.FieldType)).before a0 Z = true := hw _ (List.mem_of_getElem? (i := 15) rfl)
theorem ow_17 {Z : State} {a0 : Array Value} (hw : ∀ d ∈ tables_1, d.before a0 Z = true) : (Jvm.Cond.methodLink "com/example/slot3/slot3/frame/PostChainUnlinkPinLaw" (14 : Nat) ({ cls := "com/example/slot3/slot3/frame/PostChain", name := "append", desc := "(Lcom/example/slot3/slot3/frame/Post;)V" } : Jvm.MethodName)).before a0 Z = true := hw _ (List.mem_of_getElem? (i := 17) rfl)
theorem ow_20 {Z : State} {a0 : Array Value} (hw : ∀ d ∈ tables_1, d.before a0 Z = true) : (Jvm.Cond.selects "com/example/slot3/slot3/frame/PostChain" ({ cls := "com/example/slot3/slot3/frame/PostChain", name := "append", desc := "(Lcom/example/slot3/slot3/frame/Post;)V" } : Jvm.MethodName) ({ cls := "com/example/slot3/slot3/frame/PostChain", name := "append", desc := "(Lcom/example/slot3/slot3/frame/Post;)V" } : Jvm.MethodName)).before a0 Z = true := hw _ (List.mem_of_getElem? (i := 20) rfl)
theorem opd__Lcom_example_slot3_slot3_frame_Post__V : parseMethodDescriptor "(Lcom/example/slot3/slot3/frame/Post;)V" = some ⟨[(.object "com/example/slot3/slot3/frame/Post")], none⟩ := by decide +kernel
theorem ow_18 {Z : State} {a0 : Array Value} (hw : ∀ d ∈ tables_1, d.before a0 Z = true) : (Jvm.Cond.declares ({ cls := "com/example/slot3/slot3/frame/PostChain", name := "append", desc := "(Lcom/example/slot3/slot3/frame/Post;)V" } : Jvm.MethodName)).before a0 Z = true := hw _ (List.mem_of_getElem? (i := 18) rfl)
theorem ow_19 {Z : State} {a0 : Array Value} (hw : ∀ d ∈ tables_1, d.before a0 Z = true) : (Jvm.Cond.instanceMethod ({ cls := "com/example/slot3/slot3/frame/PostChain", name := "append", desc := "(Lcom/example/slot3/slot3/frame/Post;)V" } : Jvm.MethodName)).before a0 Z = true := hw _ (List.mem_of_getElem? (i := 19) rfl)
theorem ow_21 {Z : State} {a0 : Array Value} (hw : ∀ d ∈ tables_1, d.before a0 Z = true) : (Jvm.Cond.code ({ cls := "com/example/slot3/slot3/frame/PostChain", name := "append", desc := "(Lcom/example/slot3/slot3/frame/Post;)V" } : Jvm.MethodName) prog_11_method_3_code (2 : Nat) (Option.none : Option Jvm.ClassFile.FieldType)).before a0 Z = true := hw _ (List.mem_of_getElem? (i := 21) rfl)
theorem ow_32 {Z : State} {a0 : Array Value} (hw : ∀ d ∈ tables_1, d.before a0 Z = true) : (Jvm.Cond.methodLink "com/example/slot3/slot3/frame/PostChainUnlinkPinLaw" (18 : Nat) ({ cls := "com/example/slot3/slot3/frame/PostChain", name := "unlink", desc := "(Lcom/example/slot3/slot3/frame/Post;)V" } : Jvm.MethodName)).before a0 Z = true := hw _ (List.mem_of_getElem? (i := 32) rfl)
theorem ow_35 {Z : State} {a0 : Array Value} (hw : ∀ d ∈ tables_1, d.before a0 Z = true) : (Jvm.Cond.selects "com/example/slot3/slot3/frame/PostChain" ({ cls := "com/example/slot3/slot3/frame/PostChain", name := "unlink", desc := "(Lcom/example/slot3/slot3/frame/Post;)V" } : Jvm.MethodName) ({ cls := "com/example/slot3/slot3/frame/PostChain", name := "unlink", desc := "(Lcom/example/slot3/slot3/frame/Post;)V" } : Jvm.MethodName)).before a0 Z = true := hw _ (List.mem_of_getElem? (i := 35) rfl)
theorem ow_33 {Z : State} {a0 : Array Value} (hw : ∀ d ∈ tables_1, d.before a0 Z = true) : (Jvm.Cond.declares ({ cls := "com/example/slot3/slot3/frame/PostChain", name := "unlink", desc := "(Lcom/example/slot3/slot3/frame/Post;)V" } : Jvm.MethodName)).before a0 Z = true := hw _ (List.mem_of_getElem? (i := 33) rfl)
theorem ow_34 {Z : State} {a0 : Array Value} (hw : ∀ d ∈ tables_1, d.before a0 Z = true) : (Jvm.Cond.instanceMethod ({ cls := "com/example/slot3/slot3/frame/PostChain", name := "unlink", desc := "(Lcom/example/slot3/slot3/frame/Post;)V" } : Jvm.MethodName)).before a0 Z = true := hw _ (List.mem_of_getElem? (i := 34) rfl)
theorem ow_36 {Z : State} {a0 : Array Value} (hw : ∀ d ∈ tables_1, d.before a0 Z = true) : (Jvm.Cond.code ({ cls := "com/example/slot3/slot3/frame/PostChain", name := "unlink", desc := "(Lcom/example/slot3/slot3/frame/Post;)V" } : Jvm.MethodName) prog_11_method_5_code (4 : Nat) (Option.none : Option Jvm.ClassFile.FieldType)).before a0 Z = true := hw _ (List.mem_of_getElem? (i := 36) rfl)
theorem ow_39 {Z : State} {a0 : Array Value} (hw : ∀ d ∈ tables_1, d.before a0 Z = true) : (Jvm.Cond.fieldLink "com/example/slot3/slot3/frame/PostChainUnlinkPinLaw" (21 : Nat) "com/example/slot3/slot3/frame/PostChain" "first" "Lcom/example/slot3/slot3/frame/Post;").before a0 Z = true := hw _ (List.mem_of_getElem? (i := 39) rfl)
theorem ow_40 {Z : State} {a0 : Array Value} (hw : ∀ d ∈ tables_1, d.before a0 Z = true) : (Jvm.Cond.fieldLink "com/example/slot3/slot3/frame/PostChainUnlinkPinLaw" (25 : Nat) "com/example/slot3/slot3/frame/PostChain" "last" "Lcom/example/slot3/slot3/frame/Post;").before a0 Z = true := hw _ (List.mem_of_getElem? (i := 40) rfl)
theorem ow_41 {Z : State} {a0 : Array Value} (hw : ∀ d ∈ tables_1, d.before a0 Z = true) : (Jvm.Cond.fieldLink "com/example/slot3/slot3/frame/PostChainUnlinkPinLaw" (28 : Nat) "com/example/slot3/slot3/frame/PostChain" "count" "I").before a0 Z = true := hw _ (List.mem_of_getElem? (i := 41) rfl)
theorem ow_42 {Z : State} {a0 : Array Value} (hw : ∀ d ∈ tables_1, d.before a0 Z = true) : (Jvm.Cond.fieldLink "com/example/slot3/slot3/frame/PostChainUnlinkPinLaw" (32 : Nat) "com/example/slot3/slot3/frame/Post" "following" "Lcom/example/slot3/slot3/frame/Post;").before a0 Z = true := hw _ (List.mem_of_getElem? (i := 42) rfl)
theorem ow_43 {Z : State} {a0 : Array Value} (hw : ∀ d ∈ tables_1, d.before a0 Z = true) : (Jvm.Cond.fieldLink "com/example/slot3/slot3/frame/PostChainUnlinkPinLaw" (35 : Nat) "com/example/slot3/slot3/frame/Post" "previous" "Lcom/example/slot3/slot3/frame/Post;").before a0 Z = true := hw _ (List.mem_of_getElem? (i := 43) rfl)
theorem ow_44 {Z : State} {a0 : Array Value} (hw : ∀ d ∈ tables_1, d.before a0 Z = true) : (Jvm.Cond.fieldLink "com/example/slot3/slot3/frame/PostChainUnlinkPinLaw" (38 : Nat) "com/example/slot3/slot3/frame/Post" "chain" "Lcom/example/slot3/slot3/frame/PostChain;").before a0 Z = true := hw _ (List.mem_of_getElem? (i := 44) rfl)
theorem opn_com_example_slot3_slot3_frame_PostChainUnlinkPinLaw : plainName "com/example/slot3/slot3/frame/PostChainUnlinkPinLaw" = true := by first | (simp [plainName, overriddenIn]; done) | decide +kernel
theorem oef_law (m : MethodId) (u0 : Int32) (u1 : Int32) : entryFrame m #[(.int u0), (.int u1)] maxLocals = mkF m 0 #[.val (.int u0), .val (.int u1), .unset, .unset, .unset, .unset, .unset, .unset, .unset, .unset, .unset, .unset, .unset, .unset] [] := by first | (simp [entryFrame, mkF, argsToLocals, Value.category, maxLocals]; done) | rfl
set_option maxRecDepth 65536 in
set_option maxHeartbeats 40000000 in
theorem own_law (l : Launch) (Z : State) (a0 : Array Value) (hw : ∀ d ∈ tables_1, d.before a0 Z = true) (u0 : Int32) (u1 : Int32) (h0 : Heap) (n0 : Nat) (Z0 : n0 ≤ h0.size) :
    own_M l Z x code maxLocals ret tables_1 room_1 #[(.int u0), (.int u1)] h0 (fun v h L => v = some (.int 1) ∧ Fr n0 L) 4 63 := by
  refine own_body (plainFor_of_name opn_com_example_slot3_slot3_frame_PostChainUnlinkPinLaw) ?_
  intro p e s m below meth c s1 hx hby hml' hown hnm hret hlk hZ X0 e0
  have hml : c.maxLocals = 14 := hml'
  rw [oef_law m u0 u1]
  have N0 := Fr.nil n0
  refine own_iloadN X0 hx (hb hby at_0) rfl (pc' := 1) rfl ?_
  refine own_ldc X0 hx hZ hown (ow_0 hw) (hb hby at_1) (pc' := 3) rfl ?_
  refine own_iand X0 hx (hb hby at_3) (pc' := 4) rfl ?_
  refine own_iconst X0 hx (hb hby at_4) (z := (3 : Int32)) rfl (pc' := 5) rfl ?_
  refine own_irem X0 hx (hb hby at_5) (by decide) (pc' := 6) rfl ?_
  refine own_iconst X0 hx (hb hby at_6) (z := (1 : Int32)) rfl (pc' := 7) rfl ?_
  refine own_iadd X0 hx (hb hby at_7) (pc' := 8) rfl ?_
  refine own_istoreN X0 hx (hb hby at_8) (l' := #[.val (.int u0), .val (.int u1), .val (.int (((u0 &&& (2147483647 : Int32)) % (3 : Int32)) + (1 : Int32))), .unset, .unset, .unset, .unset, .unset, .unset, .unset, .unset, .unset, .unset, .unset]) rfl (pc' := 9) rfl ?_
  rcases own_n u0 with c1 | c2 | c3
  · rw [c1]
    refine own_iloadN X0 hx (hb hby at_9) rfl (pc' := 10) rfl ?_
    refine own_ldc X0 hx hZ hown (ow_0 hw) (hb hby at_10) (pc' := 12) rfl ?_
    refine own_iand X0 hx (hb hby at_12) (pc' := 13) rfl ?_
    refine own_iloadN X0 hx (hb hby at_13) rfl (pc' := 14) rfl ?_
    refine own_irem X0 hx (hb hby at_14) (by decide) (pc' := 15) rfl ?_
    refine own_istoreN X0 hx (hb hby at_15) (l' := #[.val (.int u0), .val (.int u1), .val (.int (1 : Int32)), .val (.int ((u1 &&& (2147483647 : Int32)) % (1 : Int32))), .unset, .unset, .unset, .unset, .unset, .unset, .unset, .unset, .unset, .unset]) rfl (pc' := 16) rfl ?_
    rcases own_w1 u1 with c4
    · rw [c4]
      refine own_new X0 hx hZ hown (ow_1 hw) (ow_2 hw) (ow_3 hw) e0 (hb hby at_16) (pc' := 19) rfl (by decide) (by decide) ?_
      intro T5 h5 a5 g5 X5 e5 E5 A5 D5
      have ge_a5 : n0 ≤ a5 := by rw [g5]; exact Z0
      have F5_last : Fld Z h5 a5 "com/example/slot3/slot3/frame/PostChain" "last" "Lcom/example/slot3/slot3/frame/Post;" (.null) := D5 (Or.inl (ow_23 hw)) (ty := (.object "com/example/slot3/slot3/frame/Post")) (by decide)
      have F5_first : Fld Z h5 a5 "com/example/slot3/slot3/frame/PostChain" "first" "Lcom/example/slot3/slot3/frame/Post;" (.null) := D5 (Or.inl (ow_25 hw)) (ty := (.object "com/example/slot3/slot3/frame/Post")) (by decide)
      have F5_count : Fld Z h5 a5 "com/example/slot3/slot3/frame/PostChain" "count" "I" (.int (0 : Int32)) := D5 (Or.inl (ow_31 hw)) (ty := .int) (by decide)
      refine own_dup X5 hx (hb hby at_19) rfl (pc' := 20) rfl ?_
      have z7 : n0 ≤ h5.size := (Nat.le_trans Z0 E5.1)
      refine own_callC X5 hx hZ rfl hown (ow_4 hw) (ow_5 hw) (ow_3 hw) (ow_6 hw) (by decide) (rm_pci l Z a0 hw a5 h5 n0 z7) e5 (W := 1) (by decide) (by decide) opd___V rfl (rest := [(.ref a5)]) rfl (hb hby at_20) (Nat.le_of_eq rfl) (by rw [hml]; rfl) (by decide) (by decide) (pc' := 23) rfl ?_
      intro v6 T6 L6 X6 q6
      obtain ⟨rfl, Nq6, eh6⟩ := q6
      have N6 := Fr.app N0 Nq6
      show own_G p e below s _ _ _ (T6.setTop (mkF m 23 #[.val (.int u0), .val (.int u1), .val (.int (1 : Int32)), .val (.int (0 : Int32)), .unset, .unset, .unset, .unset, .unset, .unset, .unset, .unset, .unset, .unset] [(.ref a5)]))
      refine own_astore X6 hx (hb hby at_23) rfl (l' := #[.val (.int u0), .val (.int u1), .val (.int (1 : Int32)), .val (.int (0 : Int32)), .val (.ref a5), .unset, .unset, .unset, .unset, .unset, .unset, .unset, .unset, .unset]) rfl (pc' := 25) rfl ?_
      refine own_new X6 hx hZ hown (ow_10 hw) (ow_11 hw) (ow_12 hw) eh6 (hb hby at_25) (pc' := 28) rfl (by decide) (by decide) ?_
      intro T8 h8 a8 g8 X8 e8 E8 A8 D8
      have lt_a5_a8 : a5 < a8 := by rw [g8]; exact A5.lt
      have ge_a8 : n0 ≤ a8 := by rw [g8]; exact z7
      have F8_previous : Fld Z h8 a8 "com/example/slot3/slot3/frame/Post" "previous" "Lcom/example/slot3/slot3/frame/Post;" (.null) := D8 (Or.inl (ow_27 hw)) (ty := (.object "com/example/slot3/slot3/frame/Post")) (by decide)
      have F8_chain : Fld Z h8 a8 "com/example/slot3/slot3/frame/Post" "chain" "Lcom/example/slot3/slot3/frame/PostChain;" (.null) := D8 (Or.inl (ow_29 hw)) (ty := (.object "com/example/slot3/slot3/frame/PostChain")) (by decide)
      have F8_following : Fld Z h8 a8 "com/example/slot3/slot3/frame/Post" "following" "Lcom/example/slot3/slot3/frame/Post;" (.null) := D8 (Or.inl (ow_38 hw)) (ty := (.object "com/example/slot3/slot3/frame/Post")) (by decide)
      refine own_dup X8 hx (hb hby at_28) rfl (pc' := 29) rfl ?_
      have z10 : n0 ≤ h8.size := (Nat.le_trans z7 E8.1)
      refine own_callC X8 hx hZ rfl hown (ow_13 hw) (ow_14 hw) (ow_12 hw) (ow_15 hw) (by decide) (rm_poi l Z a0 hw a8 h8 n0 z10) e8 (W := 1) (by decide) (by decide) opd___V rfl (rest := [(.ref a8)]) rfl (hb hby at_29) (Nat.le_of_eq rfl) (by rw [hml]; rfl) (by decide) (by decide) (pc' := 32) rfl ?_
      intro v9 T9 L9 X9 q9
      obtain ⟨rfl, Nq9, eh9⟩ := q9
      have N9 := Fr.app N6 Nq9
      show own_G p e below s _ _ _ (T9.setTop (mkF m 32 #[.val (.int u0), .val (.int u1), .val (.int (1 : Int32)), .val (.int (0 : Int32)), .val (.ref a5), .unset, .unset, .unset, .unset, .unset, .unset, .unset, .unset, .unset] [(.ref a8)]))
      refine own_astore X9 hx (hb hby at_32) rfl (l' := #[.val (.int u0), .val (.int u1), .val (.int (1 : Int32)), .val (.int (0 : Int32)), .val (.ref a5), .val (.ref a8), .unset, .unset, .unset, .unset, .unset, .unset, .unset, .unset]) rfl (pc' := 34) rfl ?_
      have f12 : Exa Z h8 a5 "com/example/slot3/slot3/frame/PostChain" := (A5.ext E8)
      refine own_new X9 hx hZ hown (ow_10 hw) (ow_11 hw) (ow_12 hw) eh9 (hb hby at_34) (pc' := 37) rfl (by decide) (by decide) ?_
      intro T11 h11 a11 g11 X11 e11 E11 A11 D11
      have lt_a5_a11 : a5 < a11 := by rw [g11]; exact f12.lt
      have lt_a8_a11 : a8 < a11 := by rw [g11]; exact A8.lt
      have ge_a11 : n0 ≤ a11 := by rw [g11]; exact z10
      have F11_previous : Fld Z h11 a11 "com/example/slot3/slot3/frame/Post" "previous" "Lcom/example/slot3/slot3/frame/Post;" (.null) := D11 (Or.inl (ow_27 hw)) (ty := (.object "com/example/slot3/slot3/frame/Post")) (by decide)
      have F11_chain : Fld Z h11 a11 "com/example/slot3/slot3/frame/Post" "chain" "Lcom/example/slot3/slot3/frame/PostChain;" (.null) := D11 (Or.inl (ow_29 hw)) (ty := (.object "com/example/slot3/slot3/frame/PostChain")) (by decide)
      have F11_following : Fld Z h11 a11 "com/example/slot3/slot3/frame/Post" "following" "Lcom/example/slot3/slot3/frame/Post;" (.null) := D11 (Or.inl (ow_38 hw)) (ty := (.object "com/example/slot3/slot3/frame/Post")) (by decide)
      refine own_dup X11 hx (hb hby at_37) rfl (pc' := 38) rfl ?_
      have z14 : n0 ≤ h11.size := (Nat.le_trans z10 E11.1)
      refine own_callC X11 hx hZ rfl hown (ow_13 hw) (ow_14 hw) (ow_12 hw) (ow_15 hw) (by decide) (rm_poi l Z a0 hw a11 h11 n0 z14) e11 (W := 1) (by decide) (by decide) opd___V rfl (rest := [(.ref a11)]) rfl (hb hby at_38) (Nat.le_of_eq rfl) (by rw [hml]; rfl) (by decide) (by decide) (pc' := 41) rfl ?_
      intro v13 T13 L13 X13 q13
      obtain ⟨rfl, Nq13, eh13⟩ := q13
      have N13 := Fr.app N9 Nq13
      show own_G p e below s _ _ _ (T13.setTop (mkF m 41 #[.val (.int u0), .val (.int u1), .val (.int (1 : Int32)), .val (.int (0 : Int32)), .val (.ref a5), .val (.ref a8), .unset, .unset, .unset, .unset, .unset, .unset, .unset, .unset] [(.ref a11)]))
      refine own_astore X13 hx (hb hby at_41) rfl (l' := #[.val (.int u0), .val (.int u1), .val (.int (1 : Int32)), .val (.int (0 : Int32)), .val (.ref a5), .val (.ref a8), .val (.ref a11), .unset, .unset, .unset, .unset, .unset, .unset, .unset]) rfl (pc' := 43) rfl ?_
      have f16 : Exa Z h11 a5 "com/example/slot3/slot3/frame/PostChain" := (f12.ext E11)
      have f17 : Exa Z h11 a8 "com/example/slot3/slot3/frame/Post" := (A8.ext E11)
      refine own_new X13 hx hZ hown (ow_10 hw) (ow_11 hw) (ow_12 hw) eh13 (hb hby at_43) (pc' := 46) rfl (by decide) (by decide) ?_
      intro T15 h15 a15 g15 X15 e15 E15 A15 D15
      have lt_a11_a15 : a11 < a15 := by rw [g15]; exact A11.lt
      have lt_a5_a15 : a5 < a15 := by rw [g15]; exact f16.lt
      have lt_a8_a15 : a8 < a15 := by rw [g15]; exact f17.lt
      have ge_a15 : n0 ≤ a15 := by rw [g15]; exact z14
      have F15_previous : Fld Z h15 a15 "com/example/slot3/slot3/frame/Post" "previous" "Lcom/example/slot3/slot3/frame/Post;" (.null) := D15 (Or.inl (ow_27 hw)) (ty := (.object "com/example/slot3/slot3/frame/Post")) (by decide)
      have F15_chain : Fld Z h15 a15 "com/example/slot3/slot3/frame/Post" "chain" "Lcom/example/slot3/slot3/frame/PostChain;" (.null) := D15 (Or.inl (ow_29 hw)) (ty := (.object "com/example/slot3/slot3/frame/PostChain")) (by decide)
      have F15_following : Fld Z h15 a15 "com/example/slot3/slot3/frame/Post" "following" "Lcom/example/slot3/slot3/frame/Post;" (.null) := D15 (Or.inl (ow_38 hw)) (ty := (.object "com/example/slot3/slot3/frame/Post")) (by decide)
      refine own_dup X15 hx (hb hby at_46) rfl (pc' := 47) rfl ?_
      have z19 : n0 ≤ h15.size := (Nat.le_trans z14 E15.1)
      refine own_callC X15 hx hZ rfl hown (ow_13 hw) (ow_14 hw) (ow_12 hw) (ow_15 hw) (by decide) (rm_poi l Z a0 hw a15 h15 n0 z19) e15 (W := 1) (by decide) (by decide) opd___V rfl (rest := [(.ref a15)]) rfl (hb hby at_47) (Nat.le_of_eq rfl) (by rw [hml]; rfl) (by decide) (by decide) (pc' := 50) rfl ?_
      intro v18 T18 L18 X18 q18
      obtain ⟨rfl, Nq18, eh18⟩ := q18
      have N18 := Fr.app N13 Nq18
      show own_G p e below s _ _ _ (T18.setTop (mkF m 50 #[.val (.int u0), .val (.int u1), .val (.int (1 : Int32)), .val (.int (0 : Int32)), .val (.ref a5), .val (.ref a8), .val (.ref a11), .unset, .unset, .unset, .unset, .unset, .unset, .unset] [(.ref a15)]))
      refine own_astore X18 hx (hb hby at_50) rfl (l' := #[.val (.int u0), .val (.int u1), .val (.int (1 : Int32)), .val (.int (0 : Int32)), .val (.ref a5), .val (.ref a8), .val (.ref a11), .val (.ref a15), .unset, .unset, .unset, .unset, .unset, .unset]) rfl (pc' := 52) rfl ?_
      refine own_aload X18 hx (hb hby at_52) rfl rfl (pc' := 54) rfl ?_
      refine own_aload X18 hx (hb hby at_54) rfl rfl (pc' := 56) rfl ?_
      have f21 : Exa Z h15 a5 "com/example/slot3/slot3/frame/PostChain" := (f16.ext E15)
      have f22 : Exa Z h15 a8 "com/example/slot3/slot3/frame/Post" := (f17.ext E15)
      have f23 : Fld Z h15 a5 "com/example/slot3/slot3/frame/PostChain" "first" "Lcom/example/slot3/slot3/frame/Post;" (.null) := (((F5_first.ext E8).ext E11).ext E15)
      have f24 : Fld Z h15 a5 "com/example/slot3/slot3/frame/PostChain" "last" "Lcom/example/slot3/slot3/frame/Post;" (.null) := (((F5_last.ext E8).ext E11).ext E15)
      have f25 : Fld Z h15 a5 "com/example/slot3/slot3/frame/PostChain" "count" "I" (.int (0 : Int32)) := (((F5_count.ext E8).ext E11).ext E15)
      have f26 : Fld Z h15 a8 "com/example/slot3/slot3/frame/Post" "following" "Lcom/example/slot3/slot3/frame/Post;" (.null) := ((F8_following.ext E11).ext E15)
      have f27 : Fld Z h15 a8 "com/example/slot3/slot3/frame/Post" "previous" "Lcom/example/slot3/slot3/frame/Post;" (.null) := ((F8_previous.ext E11).ext E15)
      have f28 : Fld Z h15 a8 "com/example/slot3/slot3/frame/Post" "chain" "Lcom/example/slot3/slot3/frame/PostChain;" (.null) := ((F8_chain.ext E11).ext E15)
      refine own_callV X18 hx hZ hown (ow_17 hw) (ow_18 hw) (ow_20 hw) (ow_19 hw) (ow_3 hw) (ow_21 hw) (by decide) f21 (rm_ap1 l Z a0 hw a5 a8 (0 : Int32) .null .null .null .null h15 n0 z19 f21 f22 f23 f24 f25 f26 f27 f28 ge_a5 ge_a8 (Nat.ne_of_lt lt_a5_a8)) eh18 (W := 0) (by decide) (by decide) opd__Lcom_example_slot3_slot3_frame_Post__V rfl (rest := []) rfl (hb hby at_56) (Nat.le_of_eq rfl) (by rw [hml]; rfl) (by decide) (by decide) (pc' := 59) rfl ?_
      intro v20 T20 L20 X20 q20
      obtain ⟨rfl, Nq20, K20, p20_0, p20_1, p20_2, p20_3, p20_4, p20_5⟩ := q20
      have N20 := Fr.app N18 Nq20
      show own_G p e below s _ _ _ (T20.setTop (mkF m 59 #[.val (.int u0), .val (.int u1), .val (.int (1 : Int32)), .val (.int (0 : Int32)), .val (.ref a5), .val (.ref a8), .val (.ref a11), .val (.ref a15), .unset, .unset, .unset, .unset, .unset, .unset] []))
      refine own_iloadN X20 hx (hb hby at_59) rfl (pc' := 60) rfl ?_
      refine own_iconst X20 hx (hb hby at_60) (z := (2 : Int32)) rfl (pc' := 61) rfl ?_
      refine own_icmpT X20 hx (hb hby at_61) (by decide) (by decide) (pc' := 71) rfl ?_
      refine own_iloadN X20 hx (hb hby at_71) rfl (pc' := 72) rfl ?_
      refine own_iconst X20 hx (hb hby at_72) (z := (3 : Int32)) rfl (pc' := 73) rfl ?_
      refine own_icmpT X20 hx (hb hby at_73) (by decide) (by decide) (pc' := 83) rfl ?_
      refine own_iloadN X20 hx (hb hby at_83) rfl (pc' := 84) rfl ?_
      refine own_ifF X20 hx (hb hby at_84) (by decide) (pc' := 87) rfl ?_
      refine own_aload X20 hx (hb hby at_87) rfl rfl (pc' := 89) rfl ?_
      refine own_goto X20 hx (hb hby at_89) (by decide) (pc' := 104) rfl ?_
      refine own_astore X20 hx (hb hby at_104) rfl (l' := #[.val (.int u0), .val (.int u1), .val (.int (1 : Int32)), .val (.int (0 : Int32)), .val (.ref a5), .val (.ref a8), .val (.ref a11), .val (.ref a15), .val (.ref a8), .unset, .unset, .unset, .unset, .unset]) rfl (pc' := 106) rfl ?_
      refine own_aload X20 hx (hb hby at_106) rfl rfl (pc' := 108) rfl ?_
      refine own_aload X20 hx (hb hby at_108) rfl rfl (pc' := 110) rfl ?_
      have f30 : Exa Z T20.heap a5 "com/example/slot3/slot3/frame/PostChain" := (f21.keep K20)
      have f31 : Exa Z T20.heap a8 "com/example/slot3/slot3/frame/Post" := (f22.keep K20)
      have z32 : n0 ≤ T20.heap.size := (Nat.le_trans z19 K20.1)
      refine own_callV X20 hx hZ hown (ow_32 hw) (ow_33 hw) (ow_35 hw) (ow_34 hw) (ow_3 hw) (ow_36 hw) (by decide) f30 (rm_ulnn l Z a0 hw a5 a8 ((0 : Int32) + (1 : Int32)) (.ref a8) (.ref a8) (.ref a5) T20.heap n0 z32 f30 f31 p20_0 p20_1 p20_2 p20_3 p20_4 p20_5 ge_a5 ge_a8 (Nat.ne_of_lt lt_a5_a8)) rfl (W := 0) (by decide) (by decide) opd__Lcom_example_slot3_slot3_frame_Post__V rfl (rest := []) rfl (hb hby at_110) (Nat.le_of_eq rfl) (by rw [hml]; rfl) (by decide) (by decide) (pc' := 113) rfl ?_
      intro v29 T29 L29 X29 q29
      obtain ⟨rfl, Nq29, K29, p29_0, p29_1, p29_2, p29_3, p29_4, p29_5⟩ := q29
      have N29 := Fr.app N20 Nq29
      show own_G p e below s _ _ _ (T29.setTop (mkF m 113 #[.val (.int u0), .val (.int u1), .val (.int (1 : Int32)), .val (.int (0 : Int32)), .val (.ref a5), .val (.ref a8), .val (.ref a11), .val (.ref a15), .val (.ref a8), .unset, .unset, .unset, .unset, .unset] []))
      refine own_iloadN X29 hx (hb hby at_113) rfl (pc' := 114) rfl ?_
      refine own_iconst X29 hx (hb hby at_114) (z := (1 : Int32)) rfl (pc' := 115) rfl ?_
      refine own_isub X29 hx (hb hby at_115) (pc' := 116) rfl ?_
      refine own_istore X29 hx (hb hby at_116) (l' := #[.val (.int u0), .val (.int u1), .val (.int (1 : Int32)), .val (.int (0 : Int32)), .val (.ref a5), .val (.ref a8), .val (.ref a11), .val (.ref a15), .val (.ref a8), .val (.int ((1 : Int32) - (1 : Int32))), .unset, .unset, .unset, .unset]) rfl (pc' := 118) rfl ?_
      refine own_iload X29 hx (hb hby at_118) rfl (pc' := 120) rfl ?_
      refine own_iconst X29 hx (hb hby at_120) (z := (1 : Int32)) rfl (pc' := 121) rfl ?_
      refine own_icmpT X29 hx (hb hby at_121) (by decide) (by decide) (pc' := 138) rfl ?_
      refine own_aconstNull X29 hx (hb hby at_138) (pc' := 139) rfl ?_
      refine own_astore X29 hx (hb hby at_139) rfl (l' := #[.val (.int u0), .val (.int u1), .val (.int (1 : Int32)), .val (.int (0 : Int32)), .val (.ref a5), .val (.ref a8), .val (.ref a11), .val (.ref a15), .val (.ref a8), .val (.int ((1 : Int32) - (1 : Int32))), .val (.null), .unset, .unset, .unset]) rfl (pc' := 141) rfl ?_
      refine own_iload X29 hx (hb hby at_141) rfl (pc' := 143) rfl ?_
      refine own_iconst X29 hx (hb hby at_143) (z := (2 : Int32)) rfl (pc' := 144) rfl ?_
      refine own_icmpT X29 hx (hb hby at_144) (by decide) (by decide) (pc' := 162) rfl ?_
      refine own_aconstNull X29 hx (hb hby at_162) (pc' := 163) rfl ?_
      refine own_astore X29 hx (hb hby at_163) rfl (l' := #[.val (.int u0), .val (.int u1), .val (.int (1 : Int32)), .val (.int (0 : Int32)), .val (.ref a5), .val (.ref a8), .val (.ref a11), .val (.ref a15), .val (.ref a8), .val (.int ((1 : Int32) - (1 : Int32))), .val (.null), .val (.null), .unset, .unset]) rfl (pc' := 165) rfl ?_
      refine own_iload X29 hx (hb hby at_165) rfl (pc' := 167) rfl ?_
      refine own_ifF X29 hx (hb hby at_167) (by decide) (pc' := 170) rfl ?_
      refine own_aconstNull X29 hx (hb hby at_170) (pc' := 171) rfl ?_
      refine own_goto X29 hx (hb hby at_171) (by decide) (pc' := 187) rfl ?_
      refine own_astore X29 hx (hb hby at_187) rfl (l' := #[.val (.int u0), .val (.int u1), .val (.int (1 : Int32)), .val (.int (0 : Int32)), .val (.ref a5), .val (.ref a8), .val (.ref a11), .val (.ref a15), .val (.ref a8), .val (.int ((1 : Int32) - (1 : Int32))), .val (.null), .val (.null), .val (.null), .unset]) rfl (pc' := 189) rfl ?_
      refine own_aload X29 hx (hb hby at_189) rfl rfl (pc' := 191) rfl ?_
      refine own_getF X29 hx hZ hown (ow_39 hw) rfl p29_0 (hb hby at_191) (pc' := 194) rfl ?_
      intro T33 X33 e33
      refine own_aload X33 hx (hb hby at_194) rfl rfl (pc' := 196) rfl ?_
      refine own_acmpF X33 hx (hb hby at_196) rfl rfl (by simp [XT.acmp]) (pc' := 199) rfl ?_
      refine own_aload X33 hx (hb hby at_199) rfl rfl (pc' := 201) rfl ?_
      refine own_getF X33 hx hZ hown (ow_40 hw) e33 p29_1 (hb hby at_201) (pc' := 204) rfl ?_
      intro T34 X34 e34
      refine own_aload X34 hx (hb hby at_204) rfl rfl (pc' := 206) rfl ?_
      refine own_acmpF X34 hx (hb hby at_206) rfl rfl (by simp [XT.acmp]) (pc' := 209) rfl ?_
      refine own_aload X34 hx (hb hby at_209) rfl rfl (pc' := 211) rfl ?_
      refine own_getF X34 hx hZ hown (ow_41 hw) e34 p29_2 (hb hby at_211) (pc' := 214) rfl ?_
      intro T35 X35 e35
      refine own_iload X35 hx (hb hby at_214) rfl (pc' := 216) rfl ?_
      refine own_icmpF X35 hx (hb hby at_216) (by decide) (pc' := 219) rfl ?_
      refine own_iconst X35 hx (hb hby at_219) (z := (1 : Int32)) rfl (pc' := 220) rfl ?_
      refine own_goto X35 hx (hb hby at_220) (by decide) (pc' := 224) rfl ?_
      refine own_istore X35 hx (hb hby at_224) (l' := #[.val (.int u0), .val (.int u1), .val (.int (1 : Int32)), .val (.int (0 : Int32)), .val (.ref a5), .val (.ref a8), .val (.ref a11), .val (.ref a15), .val (.ref a8), .val (.int ((1 : Int32) - (1 : Int32))), .val (.null), .val (.null), .val (.null), .val (.int (1 : Int32))]) rfl (pc' := 226) rfl ?_
      refine own_iload X35 hx (hb hby at_226) rfl (pc' := 228) rfl ?_
      refine own_ifF X35 hx (hb hby at_228) (by decide) (pc' := 231) rfl ?_
      refine own_aload X35 hx (hb hby at_231) rfl rfl (pc' := 233) rfl ?_
      refine own_getF X35 hx hZ hown (ow_42 hw) e35 p29_3 (hb hby at_233) (pc' := 236) rfl ?_
      intro T36 X36 e36
      refine own_ifnonnullF X36 hx (hb hby at_236) (pc' := 239) rfl ?_
      refine own_aload X36 hx (hb hby at_239) rfl rfl (pc' := 241) rfl ?_
      refine own_getF X36 hx hZ hown (ow_43 hw) e36 p29_4 (hb hby at_241) (pc' := 244) rfl ?_
      intro T37 X37 e37
      refine own_ifnonnullF X37 hx (hb hby at_244) (pc' := 247) rfl ?_
      refine own_aload X37 hx (hb hby at_247) rfl rfl (pc' := 249) rfl ?_
      refine own_getF X37 hx hZ hown (ow_44 hw) e37 p29_5 (hb hby at_249) (pc' := 252) rfl ?_
      intro T38 X38 e38
      refine own_ifnonnullF X38 hx (hb hby at_252) (pc' := 255) rfl ?_
      refine own_iconst X38 hx (hb hby at_255) (z := (1 : Int32)) rfl (pc' := 256) rfl ?_
      refine own_goto X38 hx (hb hby at_256) (by decide) (pc' := 260) rfl ?_
      refine own_istore X38 hx (hb hby at_260) (l' := #[.val (.int u0), .val (.int u1), .val (.int (1 : Int32)), .val (.int (0 : Int32)), .val (.ref a5), .val (.ref a8), .val (.ref a11), .val (.ref a15), .val (.ref a8), .val (.int ((1 : Int32) - (1 : Int32))), .val (.null), .val (.null), .val (.null), .val (.int (1 : Int32))]) rfl (pc' := 262) rfl ?_
      refine own_aload X38 hx (hb hby at_262) rfl rfl (pc' := 264) rfl ?_
      refine own_ifnullT X38 hx (hb hby at_264) (by decide) (pc' := 307) rfl ?_
      refine own_aload X38 hx (hb hby at_307) rfl rfl (pc' := 309) rfl ?_
      refine own_ifnullT X38 hx (hb hby at_309) (by decide) (pc' := 352) rfl ?_
      refine own_iload X38 hx (hb hby at_352) rfl (pc' := 354) rfl ?_
      exact own_retZ X38 hx hret hlk (Or.inr rfl) (hb hby at_354) ⟨rfl, N29⟩ (by decide) (by decide)
  · rw [c2]
    refine own_iloadN X0 hx (hb hby at_9) rfl (pc' := 10) rfl ?_
    refine own_ldc X0 hx hZ hown (ow_0 hw) (hb hby at_10) (pc' := 12) rfl ?_
    refine own_iand X0 hx (hb hby at_12) (pc' := 13) rfl ?_
    refine own_iloadN X0 hx (hb hby at_13) rfl (pc' := 14) rfl ?_
    refine own_irem X0 hx (hb hby at_14) (by decide) (pc' := 15) rfl ?_
    refine own_istoreN X0 hx (hb hby at_15) (l' := #[.val (.int u0), .val (.int u1), .val (.int (2 : Int32)), .val (.int ((u1 &&& (2147483647 : Int32)) % (2 : Int32))), .unset, .unset, .unset, .unset, .unset, .unset, .unset, .unset, .unset, .unset]) rfl (pc' := 16) rfl ?_
    rcases own_w2 u1 with c39 | c40
    · rw [c39]
      refine own_new X0 hx hZ hown (ow_1 hw) (ow_2 hw) (ow_3 hw) e0 (hb hby at_16) (pc' := 19) rfl (by decide) (by decide) ?_
      intro T41 h41 a41 g41 X41 e41 E41 A41 D41
      have ge_a41 : n0 ≤ a41 := by rw [g41]; exact Z0
      have F41_last : Fld Z h41 a41 "com/example/slot3/slot3/frame/PostChain" "last" "Lcom/example/slot3/slot3/frame/Post;" (.null) := D41 (Or.inl (ow_23 hw)) (ty := (.object "com/example/slot3/slot3/frame/Post")) (by decide)
      have F41_first : Fld Z h41 a41 "com/example/slot3/slot3/frame/PostChain" "first" "Lcom/example/slot3/slot3/frame/Post;" (.null) := D41 (Or.inl (ow_25 hw)) (ty := (.object "com/example/slot3/slot3/frame/Post")) (by decide)
      have F41_count : Fld Z h41 a41 "com/example/slot3/slot3/frame/PostChain" "count" "I" (.int (0 : Int32)) := D41 (Or.inl (ow_31 hw)) (ty := .int) (by decide)
      refine own_dup X41 hx (hb hby at_19) rfl (pc' := 20) rfl ?_
      have z43 : n0 ≤ h41.size := (Nat.le_trans Z0 E41.1)
      refine own_callC X41 hx hZ rfl hown (ow_4 hw) (ow_5 hw) (ow_3 hw) (ow_6 hw) (by decide) (rm_pci l Z a0 hw a41 h41 n0 z43) e41 (W := 1) (by decide) (by decide) opd___V rfl (rest := [(.ref a41)]) rfl (hb hby at_20) (Nat.le_of_eq rfl) (by rw [hml]; rfl) (by decide) (by decide) (pc' := 23) rfl ?_
      intro v42 T42 L42 X42 q42
      obtain ⟨rfl, Nq42, eh42⟩ := q42
      have N42 := Fr.app N0 Nq42
      show own_G p e below s _ _ _ (T42.setTop (mkF m 23 #[.val (.int u0), .val (.int u1), .val (.int (2 : Int32)), .val (.int (0 : Int32)), .unset, .unset, .unset, .unset, .unset, .unset, .unset, .unset, .unset, .unset] [(.ref a41)]))
      refine own_astore X42 hx (hb hby at_23) rfl (l' := #[.val (.int u0), .val (.int u1), .val (.int (2 : Int32)), .val (.int (0 : Int32)), .val (.ref a41), .unset, .unset, .unset, .unset, .unset, .unset, .unset, .unset, .unset]) rfl (pc' := 25) rfl ?_
      refine own_new X42 hx hZ hown (ow_10 hw) (ow_11 hw) (ow_12 hw) eh42 (hb hby at_25) (pc' := 28) rfl (by decide) (by decide) ?_
      intro T44 h44 a44 g44 X44 e44 E44 A44 D44
      have lt_a41_a44 : a41 < a44 := by rw [g44]; exact A41.lt
      have ge_a44 : n0 ≤ a44 := by rw [g44]; exact z43
      have F44_previous : Fld Z h44 a44 "com/example/slot3/slot3/frame/Post" "previous" "Lcom/example/slot3/slot3/frame/Post;" (.null) := D44 (Or.inl (ow_27 hw)) (ty := (.object "com/example/slot3/slot3/frame/Post")) (by decide)
      have F44_chain : Fld Z h44 a44 "com/example/slot3/slot3/frame/Post" "chain" "Lcom/example/slot3/slot3/frame/PostChain;" (.null) := D44 (Or.inl (ow_29 hw)) (ty := (.object "com/example/slot3/slot3/frame/PostChain")) (by decide)
      have F44_following : Fld Z h44 a44 "com/example/slot3/slot3/frame/Post" "following" "Lcom/example/slot3/slot3/frame/Post;" (.null) := D44 (Or.inl (ow_38 hw)) (ty := (.object "com/example/slot3/slot3/frame/Post")) (by decide)
      refine own_dup X44 hx (hb hby at_28) rfl (pc' := 29) rfl ?_
      have z46 : n0 ≤ h44.size := (Nat.le_trans z43 E44.1)
      refine own_callC X44 hx hZ rfl hown (ow_13 hw) (ow_14 hw) (ow_12 hw) (ow_15 hw) (by decide) (rm_poi l Z a0 hw a44 h44 n0 z46) e44 (W := 1) (by decide) (by decide) opd___V rfl (rest := [(.ref a44)]) rfl (hb hby at_29) (Nat.le_of_eq rfl) (by rw [hml]; rfl) (by decide) (by decide) (pc' := 32) rfl ?_
      intro v45 T45 L45 X45 q45
      obtain ⟨rfl, Nq45, eh45⟩ := q45
      have N45 := Fr.app N42 Nq45
      show own_G p e below s _ _ _ (T45.setTop (mkF m 32 #[.val (.int u0), .val (.int u1), .val (.int (2 : Int32)), .val (.int (0 : Int32)), .val (.ref a41), .unset, .unset, .unset, .unset, .unset, .unset, .unset, .unset, .unset] [(.ref a44)]))
      refine own_astore X45 hx (hb hby at_32) rfl (l' := #[.val (.int u0), .val (.int u1), .val (.int (2 : Int32)), .val (.int (0 : Int32)), .val (.ref a41), .val (.ref a44), .unset, .unset, .unset, .unset, .unset, .unset, .unset, .unset]) rfl (pc' := 34) rfl ?_
      have f48 : Exa Z h44 a41 "com/example/slot3/slot3/frame/PostChain" := (A41.ext E44)
      refine own_new X45 hx hZ hown (ow_10 hw) (ow_11 hw) (ow_12 hw) eh45 (hb hby at_34) (pc' := 37) rfl (by decide) (by decide) ?_
      intro T47 h47 a47 g47 X47 e47 E47 A47 D47
      have lt_a41_a47 : a41 < a47 := by rw [g47]; exact f48.lt
      have lt_a44_a47 : a44 < a47 := by rw [g47]; exact A44.lt
      have ge_a47 : n0 ≤ a47 := by rw [g47]; exact z46
      have F47_previous : Fld Z h47 a47 "com/example/slot3/slot3/frame/Post" "previous" "Lcom/example/slot3/slot3/frame/Post;" (.null) := D47 (Or.inl (ow_27 hw)) (ty := (.object "com/example/slot3/slot3/frame/Post")) (by decide)
      have F47_chain : Fld Z h47 a47 "com/example/slot3/slot3/frame/Post" "chain" "Lcom/example/slot3/slot3/frame/PostChain;" (.null) := D47 (Or.inl (ow_29 hw)) (ty := (.object "com/example/slot3/slot3/frame/PostChain")) (by decide)
      have F47_following : Fld Z h47 a47 "com/example/slot3/slot3/frame/Post" "following" "Lcom/example/slot3/slot3/frame/Post;" (.null) := D47 (Or.inl (ow_38 hw)) (ty := (.object "com/example/slot3/slot3/frame/Post")) (by decide)
      refine own_dup X47 hx (hb hby at_37) rfl (pc' := 38) rfl ?_
      have z50 : n0 ≤ h47.size := (Nat.le_trans z46 E47.1)
      refine own_callC X47 hx hZ rfl hown (ow_13 hw) (ow_14 hw) (ow_12 hw) (ow_15 hw) (by decide) (rm_poi l Z a0 hw a47 h47 n0 z50) e47 (W := 1) (by decide) (by decide) opd___V rfl (rest := [(.ref a47)]) rfl (hb hby at_38) (Nat.le_of_eq rfl) (by rw [hml]; rfl) (by decide) (by decide) (pc' := 41) rfl ?_
      intro v49 T49 L49 X49 q49
      obtain ⟨rfl, Nq49, eh49⟩ := q49
      have N49 := Fr.app N45 Nq49
      show own_G p e below s _ _ _ (T49.setTop (mkF m 41 #[.val (.int u0), .val (.int u1), .val (.int (2 : Int32)), .val (.int (0 : Int32)), .val (.ref a41), .val (.ref a44), .unset, .unset, .unset, .unset, .unset, .unset, .unset, .unset] [(.ref a47)]))
      refine own_astore X49 hx (hb hby at_41) rfl (l' := #[.val (.int u0), .val (.int u1), .val (.int (2 : Int32)), .val (.int (0 : Int32)), .val (.ref a41), .val (.ref a44), .val (.ref a47), .unset, .unset, .unset, .unset, .unset, .unset, .unset]) rfl (pc' := 43) rfl ?_
      have f52 : Exa Z h47 a41 "com/example/slot3/slot3/frame/PostChain" := (f48.ext E47)
      have f53 : Exa Z h47 a44 "com/example/slot3/slot3/frame/Post" := (A44.ext E47)
      refine own_new X49 hx hZ hown (ow_10 hw) (ow_11 hw) (ow_12 hw) eh49 (hb hby at_43) (pc' := 46) rfl (by decide) (by decide) ?_
      intro T51 h51 a51 g51 X51 e51 E51 A51 D51
      have lt_a41_a51 : a41 < a51 := by rw [g51]; exact f52.lt
      have lt_a44_a51 : a44 < a51 := by rw [g51]; exact f53.lt
      have lt_a47_a51 : a47 < a51 := by rw [g51]; exact A47.lt
      have ge_a51 : n0 ≤ a51 := by rw [g51]; exact z50
      have F51_previous : Fld Z h51 a51 "com/example/slot3/slot3/frame/Post" "previous" "Lcom/example/slot3/slot3/frame/Post;" (.null) := D51 (Or.inl (ow_27 hw)) (ty := (.object "com/example/slot3/slot3/frame/Post")) (by decide)
      have F51_chain : Fld Z h51 a51 "com/example/slot3/slot3/frame/Post" "chain" "Lcom/example/slot3/slot3/frame/PostChain;" (.null) := D51 (Or.inl (ow_29 hw)) (ty := (.object "com/example/slot3/slot3/frame/PostChain")) (by decide)
      have F51_following : Fld Z h51 a51 "com/example/slot3/slot3/frame/Post" "following" "Lcom/example/slot3/slot3/frame/Post;" (.null) := D51 (Or.inl (ow_38 hw)) (ty := (.object "com/example/slot3/slot3/frame/Post")) (by decide)
      refine own_dup X51 hx (hb hby at_46) rfl (pc' := 47) rfl ?_
      have z55 : n0 ≤ h51.size := (Nat.le_trans z50 E51.1)
      refine own_callC X51 hx hZ rfl hown (ow_13 hw) (ow_14 hw) (ow_12 hw) (ow_15 hw) (by decide) (rm_poi l Z a0 hw a51 h51 n0 z55) e51 (W := 1) (by decide) (by decide) opd___V rfl (rest := [(.ref a51)]) rfl (hb hby at_47) (Nat.le_of_eq rfl) (by rw [hml]; rfl) (by decide) (by decide) (pc' := 50) rfl ?_
      intro v54 T54 L54 X54 q54
      obtain ⟨rfl, Nq54, eh54⟩ := q54
      have N54 := Fr.app N49 Nq54
      show own_G p e below s _ _ _ (T54.setTop (mkF m 50 #[.val (.int u0), .val (.int u1), .val (.int (2 : Int32)), .val (.int (0 : Int32)), .val (.ref a41), .val (.ref a44), .val (.ref a47), .unset, .unset, .unset, .unset, .unset, .unset, .unset] [(.ref a51)]))
      refine own_astore X54 hx (hb hby at_50) rfl (l' := #[.val (.int u0), .val (.int u1), .val (.int (2 : Int32)), .val (.int (0 : Int32)), .val (.ref a41), .val (.ref a44), .val (.ref a47), .val (.ref a51), .unset, .unset, .unset, .unset, .unset, .unset]) rfl (pc' := 52) rfl ?_
      refine own_aload X54 hx (hb hby at_52) rfl rfl (pc' := 54) rfl ?_
      refine own_aload X54 hx (hb hby at_54) rfl rfl (pc' := 56) rfl ?_
      have f57 : Exa Z h51 a41 "com/example/slot3/slot3/frame/PostChain" := (f52.ext E51)
      have f58 : Exa Z h51 a44 "com/example/slot3/slot3/frame/Post" := (f53.ext E51)
      have f59 : Fld Z h51 a41 "com/example/slot3/slot3/frame/PostChain" "first" "Lcom/example/slot3/slot3/frame/Post;" (.null) := (((F41_first.ext E44).ext E47).ext E51)
      have f60 : Fld Z h51 a41 "com/example/slot3/slot3/frame/PostChain" "last" "Lcom/example/slot3/slot3/frame/Post;" (.null) := (((F41_last.ext E44).ext E47).ext E51)
      have f61 : Fld Z h51 a41 "com/example/slot3/slot3/frame/PostChain" "count" "I" (.int (0 : Int32)) := (((F41_count.ext E44).ext E47).ext E51)
      have f62 : Fld Z h51 a44 "com/example/slot3/slot3/frame/Post" "following" "Lcom/example/slot3/slot3/frame/Post;" (.null) := ((F44_following.ext E47).ext E51)
      have f63 : Fld Z h51 a44 "com/example/slot3/slot3/frame/Post" "previous" "Lcom/example/slot3/slot3/frame/Post;" (.null) := ((F44_previous.ext E47).ext E51)
      have f64 : Fld Z h51 a44 "com/example/slot3/slot3/frame/Post" "chain" "Lcom/example/slot3/slot3/frame/PostChain;" (.null) := ((F44_chain.ext E47).ext E51)
      refine own_callV X54 hx hZ hown (ow_17 hw) (ow_18 hw) (ow_20 hw) (ow_19 hw) (ow_3 hw) (ow_21 hw) (by decide) f57 (rm_ap1 l Z a0 hw a41 a44 (0 : Int32) .null .null .null .null h51 n0 z55 f57 f58 f59 f60 f61 f62 f63 f64 ge_a41 ge_a44 (Nat.ne_of_lt lt_a41_a44)) eh54 (W := 0) (by decide) (by decide) opd__Lcom_example_slot3_slot3_frame_Post__V rfl (rest := []) rfl (hb hby at_56) (Nat.le_of_eq rfl) (by rw [hml]; rfl) (by decide) (by decide) (pc' := 59) rfl ?_
      intro v56 T56 L56 X56 q56
      obtain ⟨rfl, Nq56, K56, p56_0, p56_1, p56_2, p56_3, p56_4, p56_5⟩ := q56
      have N56 := Fr.app N54 Nq56
      show own_G p e below s _ _ _ (T56.setTop (mkF m 59 #[.val (.int u0), .val (.int u1), .val (.int (2 : Int32)), .val (.int (0 : Int32)), .val (.ref a41), .val (.ref a44), .val (.ref a47), .val (.ref a51), .unset, .unset, .unset, .unset, .unset, .unset] []))
      refine own_iloadN X56 hx (hb hby at_59) rfl (pc' := 60) rfl ?_
      refine own_iconst X56 hx (hb hby at_60) (z := (2 : Int32)) rfl (pc' := 61) rfl ?_
      refine own_icmpF X56 hx (hb hby at_61) (by decide) (pc' := 64) rfl ?_
      refine own_aload X56 hx (hb hby at_64) rfl rfl (pc' := 66) rfl ?_
      refine own_aload X56 hx (hb hby at_66) rfl rfl (pc' := 68) rfl ?_
      have f66 : Exa Z T56.heap a41 "com/example/slot3/slot3/frame/PostChain" := (f57.keep K56)
      have f67 : Exa Z T56.heap a47 "com/example/slot3/slot3/frame/Post" := ((A47.ext E51).keep K56)
      have f68 : Exa Z T56.heap a44 "com/example/slot3/slot3/frame/Post" := (f58.keep K56)
      have f69 : Fld Z T56.heap a47 "com/example/slot3/slot3/frame/Post" "following" "Lcom/example/slot3/slot3/frame/Post;" (.null) := ((F47_following.ext E51).keep K56 (ninS (Nat.ne_of_gt lt_a41_a47) (ninS (Nat.ne_of_gt lt_a44_a47) nin0)))
      have f70 : Fld Z T56.heap a47 "com/example/slot3/slot3/frame/Post" "previous" "Lcom/example/slot3/slot3/frame/Post;" (.null) := ((F47_previous.ext E51).keep K56 (ninS (Nat.ne_of_gt lt_a41_a47) (ninS (Nat.ne_of_gt lt_a44_a47) nin0)))
      have f71 : Fld Z T56.heap a47 "com/example/slot3/slot3/frame/Post" "chain" "Lcom/example/slot3/slot3/frame/PostChain;" (.null) := ((F47_chain.ext E51).keep K56 (ninS (Nat.ne_of_gt lt_a41_a47) (ninS (Nat.ne_of_gt lt_a44_a47) nin0)))
      have z72 : n0 ≤ T56.heap.size := (Nat.le_trans z55 K56.1)
      refine own_callV X56 hx hZ hown (ow_17 hw) (ow_18 hw) (ow_20 hw) (ow_19 hw) (ow_3 hw) (ow_21 hw) (by decide) f66 (rm_ap2 l Z a0 hw a41 a47 a44 ((0 : Int32) + (1 : Int32)) (.ref a44) .null .null .null .null .null (.ref a41) T56.heap n0 z72 f66 f67 p56_0 p56_1 p56_2 f68 f69 f70 f71 p56_3 p56_4 p56_5 ge_a41 ge_a47 ge_a44 (Nat.ne_of_lt lt_a41_a47) (Nat.ne_of_lt lt_a41_a44) (Nat.ne_of_gt lt_a44_a47)) rfl (W := 0) (by decide) (by decide) opd__Lcom_example_slot3_slot3_frame_Post__V rfl (rest := []) rfl (hb hby at_68) (Nat.le_of_eq rfl) (by rw [hml]; rfl) (by decide) (by decide) (pc' := 71) rfl ?_
      intro v65 T65 L65 X65 q65
      obtain ⟨rfl, Nq65, K65, p65_0, p65_1, p65_2, p65_3, p65_4, p65_5, p65_6, p65_7, p65_8⟩ := q65
      have N65 := Fr.app N56 Nq65
      show own_G p e below s _ _ _ (T65.setTop (mkF m 71 #[.val (.int u0), .val (.int u1), .val (.int (2 : Int32)), .val (.int (0 : Int32)), .val (.ref a41), .val (.ref a44), .val (.ref a47), .val (.ref a51), .unset, .unset, .unset, .unset, .unset, .unset] []))
      refine own_iloadN X65 hx (hb hby at_71) rfl (pc' := 72) rfl ?_
      refine own_iconst X65 hx (hb hby at_72) (z := (3 : Int32)) rfl (pc' := 73) rfl ?_
      refine own_icmpT X65 hx (hb hby at_73) (by decide) (by decide) (pc' := 83) rfl ?_
      refine own_iloadN X65 hx (hb hby at_83) rfl (pc' := 84) rfl ?_
      refine own_ifF X65 hx (hb hby at_84) (by decide) (pc' := 87) rfl ?_
      refine own_aload X65 hx (hb hby at_87) rfl rfl (pc' := 89) rfl ?_
      refine own_goto X65 hx (hb hby at_89) (by decide) (pc' := 104) rfl ?_
      refine own_astore X65 hx (hb hby at_104) rfl (l' := #[.val (.int u0), .val (.int u1), .val (.int (2 : Int32)), .val (.int (0 : Int32)), .val (.ref a41), .val (.ref a44), .val (.ref a47), .val (.ref a51), .val (.ref a44), .unset, .unset, .unset, .unset, .unset]) rfl (pc' := 106) rfl ?_
      refine own_aload X65 hx (hb hby at_106) rfl rfl (pc' := 108) rfl ?_
      refine own_aload X65 hx (hb hby at_108) rfl rfl (pc' := 110) rfl ?_
      have f74 : Exa Z T65.heap a41 "com/example/slot3/slot3/frame/PostChain" := (f66.keep K65)
      have f75 : Exa Z T65.heap a44 "com/example/slot3/slot3/frame/Post" := (f68.keep K65)
      have f76 : Exa Z T65.heap a47 "com/example/slot3/slot3/frame/Post" := (f67.keep K65)
      have z77 : n0 ≤ T65.heap.size := (Nat.le_trans z72 K65.1)
      refine own_callV X65 hx hZ hown (ow_32 hw) (ow_33 hw) (ow_35 hw) (ow_34 hw) (ow_3 hw) (ow_36 hw) (by decide) f74 (rm_ulnr l Z a0 hw a41 a44 a47 (((0 : Int32) + (1 : Int32)) + (1 : Int32)) (.ref a44) (.ref a47) (.ref a41) .null (.ref a44) (.ref a41) T65.heap n0 z77 f74 f75 p65_0 p65_1 p65_2 p65_6 p65_7 p65_8 f76 p65_3 p65_4 p65_5 ge_a41 ge_a44 ge_a47 (Nat.ne_of_lt lt_a41_a44) (Nat.ne_of_lt lt_a41_a47) (Nat.ne_of_lt lt_a44_a47)) rfl (W := 0) (by decide) (by decide) opd__Lcom_example_slot3_slot3_frame_Post__V rfl (rest := []) rfl (hb hby at_110) (Nat.le_of_eq rfl) (by rw [hml]; rfl) (by decide) (by decide) (pc' := 113) rfl ?_
      intro v73 T73 L73 X73 q73
      obtain ⟨rfl, Nq73, K73, p73_0, p73_1, p73_2, p73_3, p73_4, p73_5, p73_6, p73_7, p73_8⟩ := q73
      have N73 := Fr.app N65 Nq73
      show own_G p e below s _ _ _ (T73.setTop (mkF m 113 #[.val (.int u0), .val (.int u1), .val (.int (2 : Int32)), .val (.int (0 : Int32)), .val (.ref a41), .val (.ref a44), .val (.ref a47), .val (.ref a51), .val (.ref a44), .unset, .unset, .unset, .unset, .unset] []))
      refine own_iloadN X73 hx (hb hby at_113) rfl (pc' := 114) rfl ?_
      refine own_iconst X73 hx (hb hby at_114) (z := (1 : Int32)) rfl (pc' := 115) rfl ?_
      refine own_isub X73 hx (hb hby at_115) (pc' := 116) rfl ?_
      refine own_istore X73 hx (hb hby at_116) (l' := #[.val (.int u0), .val (.int u1), .val (.int (2 : Int32)), .val (.int (0 : Int32)), .val (.ref a41), .val (.ref a44), .val (.ref a47), .val (.ref a51), .val (.ref a44), .val (.int ((2 : Int32) - (1 : Int32))), .unset, .unset, .unset, .unset]) rfl (pc' := 118) rfl ?_
      refine own_iload X73 hx (hb hby at_118) rfl (pc' := 120) rfl ?_
      refine own_iconst X73 hx (hb hby at_120) (z := (1 : Int32)) rfl (pc' := 121) rfl ?_
      refine own_icmpF X73 hx (hb hby at_121) (by decide) (pc' := 124) rfl ?_
      refine own_iloadN X73 hx (hb hby at_124) rfl (pc' := 125) rfl ?_
      refine own_ifF X73 hx (hb hby at_125) (by decide) (pc' := 128) rfl ?_
      refine own_aload X73 hx (hb hby at_128) rfl rfl (pc' := 130) rfl ?_
      refine own_goto X73 hx (hb hby at_130) (by decide) (pc' := 139) rfl ?_
      refine own_astore X73 hx (hb hby at_139) rfl (l' := #[.val (.int u0), .val (.int u1), .val (.int (2 : Int32)), .val (.int (0 : Int32)), .val (.ref a41), .val (.ref a44), .val (.ref a47), .val (.ref a51), .val (.ref a44), .val (.int ((2 : Int32) - (1 : Int32))), .val (.ref a47), .unset, .unset, .unset]) rfl (pc' := 141) rfl ?_
      refine own_iload X73 hx (hb hby at_141) rfl (pc' := 143) rfl ?_
      refine own_iconst X73 hx (hb hby at_143) (z := (2 : Int32)) rfl (pc' := 144) rfl ?_
      refine own_icmpT X73 hx (hb hby at_144) (by decide) (by decide) (pc' := 162) rfl ?_
      refine own_aconstNull X73 hx (hb hby at_162) (pc' := 163) rfl ?_
      refine own_astore X73 hx (hb hby at_163) rfl (l' := #[.val (.int u0), .val (.int u1), .val (.int (2 : Int32)), .val (.int (0 : Int32)), .val (.ref a41), .val (.ref a44), .val (.ref a47), .val (.ref a51), .val (.ref a44), .val (.int ((2 : Int32) - (1 : Int32))), .val (.ref a47), .val (.null), .unset, .unset]) rfl (pc' := 165) rfl ?_
      refine own_iload X73 hx (hb hby at_165) rfl (pc' := 167) rfl ?_
      refine own_ifT X73 hx (hb hby at_167) (by decide) (by decide) (pc' := 174) rfl ?_
      refine own_iload X73 hx (hb hby at_174) rfl (pc' := 176) rfl ?_
      refine own_iconst X73 hx (hb hby at_176) (z := (1 : Int32)) rfl (pc' := 177) rfl ?_
      refine own_icmpF X73 hx (hb hby at_177) (by decide) (pc' := 180) rfl ?_
      refine own_aload X73 hx (hb hby at_180) rfl rfl (pc' := 182) rfl ?_
      refine own_goto X73 hx (hb hby at_182) (by decide) (pc' := 187) rfl ?_
      refine own_astore X73 hx (hb hby at_187) rfl (l' := #[.val (.int u0), .val (.int u1), .val (.int (2 : Int32)), .val (.int (0 : Int32)), .val (.ref a41), .val (.ref a44), .val (.ref a47), .val (.ref a51), .val (.ref a44), .val (.int ((2 : Int32) - (1 : Int32))), .val (.ref a47), .val (.null), .val (.ref a47), .unset]) rfl (pc' := 189) rfl ?_
      refine own_aload X73 hx (hb hby at_189) rfl rfl (pc' := 191) rfl ?_
      refine own_getF X73 hx hZ hown (ow_39 hw) rfl p73_0 (hb hby at_191) (pc' := 194) rfl ?_
      intro T78 X78 e78
      refine own_aload X78 hx (hb hby at_194) rfl rfl (pc' := 196) rfl ?_
      refine own_acmpF X78 hx (hb hby at_196) rfl rfl (by simp [XT.acmp]) (pc' := 199) rfl ?_
      refine own_aload X78 hx (hb hby at_199) rfl rfl (pc' := 201) rfl ?_
      refine own_getF X78 hx hZ hown (ow_40 hw) e78 p73_1 (hb hby at_201) (pc' := 204) rfl ?_
      intro T79 X79 e79
      refine own_aload X79 hx (hb hby at_204) rfl rfl (pc' := 206) rfl ?_
      refine own_acmpF X79 hx (hb hby at_206) rfl rfl (by simp [XT.acmp]) (pc' := 209) rfl ?_
      refine own_aload X79 hx (hb hby at_209) rfl rfl (pc' := 211) rfl ?_
      refine own_getF X79 hx hZ hown (ow_41 hw) e79 p73_2 (hb hby at_211) (pc' := 214) rfl ?_
      intro T80 X80 e80
      refine own_iload X80 hx (hb hby at_214) rfl (pc' := 216) rfl ?_
      refine own_icmpF X80 hx (hb hby at_216) (by decide) (pc' := 219) rfl ?_
      refine own_iconst X80 hx (hb hby at_219) (z := (1 : Int32)) rfl (pc' := 220) rfl ?_
      refine own_goto X80 hx (hb hby at_220) (by decide) (pc' := 224) rfl ?_
      refine own_istore X80 hx (hb hby at_224) (l' := #[.val (.int u0), .val (.int u1), .val (.int (2 : Int32)), .val (.int (0 : Int32)), .val (.ref a41), .val (.ref a44), .val (.ref a47), .val (.ref a51), .val (.ref a44), .val (.int ((2 : Int32) - (1 : Int32))), .val (.ref a47), .val (.null), .val (.ref a47), .val (.int (1 : Int32))]) rfl (pc' := 226) rfl ?_
      refine own_iload X80 hx (hb hby at_226) rfl (pc' := 228) rfl ?_
      refine own_ifF X80 hx (hb hby at_228) (by decide) (pc' := 231) rfl ?_
      refine own_aload X80 hx (hb hby at_231) rfl rfl (pc' := 233) rfl ?_
      refine own_getF X80 hx hZ hown (ow_42 hw) e80 p73_3 (hb hby at_233) (pc' := 236) rfl ?_
      intro T81 X81 e81
      refine own_ifnonnullF X81 hx (hb hby at_236) (pc' := 239) rfl ?_
      refine own_aload X81 hx (hb hby at_239) rfl rfl (pc' := 241) rfl ?_
      refine own_getF X81 hx hZ hown (ow_43 hw) e81 p73_4 (hb hby at_241) (pc' := 244) rfl ?_
      intro T82 X82 e82
      refine own_ifnonnullF X82 hx (hb hby at_244) (pc' := 247) rfl ?_
      refine own_aload X82 hx (hb hby at_247) rfl rfl (pc' := 249) rfl ?_
      refine own_getF X82 hx hZ hown (ow_44 hw) e82 p73_5 (hb hby at_249) (pc' := 252) rfl ?_
      intro T83 X83 e83
      refine own_ifnonnullF X83 hx (hb hby at_252) (pc' := 255) rfl ?_
      refine own_iconst X83 hx (hb hby at_255) (z := (1 : Int32)) rfl (pc' := 256) rfl ?_
      refine own_goto X83 hx (hb hby at_256) (by decide) (pc' := 260) rfl ?_
      refine own_istore X83 hx (hb hby at_260) (l' := #[.val (.int u0), .val (.int u1), .val (.int (2 : Int32)), .val (.int (0 : Int32)), .val (.ref a41), .val (.ref a44), .val (.ref a47), .val (.ref a51), .val (.ref a44), .val (.int ((2 : Int32) - (1 : Int32))), .val (.ref a47), .val (.null), .val (.ref a47), .val (.int (1 : Int32))]) rfl (pc' := 262) rfl ?_
      refine own_aload X83 hx (hb hby at_262) rfl rfl (pc' := 264) rfl ?_
      refine own_ifnullF X83 hx (hb hby at_264) (pc' := 267) rfl ?_
      refine own_iload X83 hx (hb hby at_267) rfl (pc' := 269) rfl ?_
      refine own_ifF X83 hx (hb hby at_269) (by decide) (pc' := 272) rfl ?_
      refine own_aload X83 hx (hb hby at_272) rfl rfl (pc' := 274) rfl ?_
      refine own_getF X83 hx hZ hown (ow_43 hw) e83 p73_7 (hb hby at_274) (pc' := 277) rfl ?_
      intro T84 X84 e84
      refine own_ifnonnullF X84 hx (hb hby at_277) (pc' := 280) rfl ?_
      refine own_aload X84 hx (hb hby at_280) rfl rfl (pc' := 282) rfl ?_
      refine own_getF X84 hx hZ hown (ow_42 hw) e84 p73_6 (hb hby at_282) (pc' := 285) rfl ?_
      intro T85 X85 e85
      refine own_aload X85 hx (hb hby at_285) rfl rfl (pc' := 287) rfl ?_
      refine own_acmpF X85 hx (hb hby at_287) rfl rfl (by simp [XT.acmp]) (pc' := 290) rfl ?_
      refine own_aload X85 hx (hb hby at_290) rfl rfl (pc' := 292) rfl ?_
      refine own_getF X85 hx hZ hown (ow_44 hw) e85 p73_8 (hb hby at_292) (pc' := 295) rfl ?_
      intro T86 X86 e86
      refine own_aload X86 hx (hb hby at_295) rfl rfl (pc' := 297) rfl ?_
      refine own_acmpF X86 hx (hb hby at_297) rfl rfl (by simp [XT.acmp]) (pc' := 300) rfl ?_
      refine own_iconst X86 hx (hb hby at_300) (z := (1 : Int32)) rfl (pc' := 301) rfl ?_
      refine own_goto X86 hx (hb hby at_301) (by decide) (pc' := 305) rfl ?_
      refine own_istore X86 hx (hb hby at_305) (l' := #[.val (.int u0), .val (.int u1), .val (.int (2 : Int32)), .val (.int (0 : Int32)), .val (.ref a41), .val (.ref a44), .val (.ref a47), .val (.ref a51), .val (.ref a44), .val (.int ((2 : Int32) - (1 : Int32))), .val (.ref a47), .val (.null), .val (.ref a47), .val (.int (1 : Int32))]) rfl (pc' := 307) rfl ?_
      refine own_aload X86 hx (hb hby at_307) rfl rfl (pc' := 309) rfl ?_
      refine own_ifnullT X86 hx (hb hby at_309) (by decide) (pc' := 352) rfl ?_
      refine own_iload X86 hx (hb hby at_352) rfl (pc' := 354) rfl ?_
      exact own_retZ X86 hx hret hlk (Or.inr rfl) (hb hby at_354) ⟨rfl, N73⟩ (by decide) (by decide)
    · rw [c40]
      refine own_new X0 hx hZ hown (ow_1 hw) (ow_2 hw) (ow_3 hw) e0 (hb hby at_16) (pc' := 19) rfl (by decide) (by decide) ?_
      intro T87 h87 a87 g87 X87 e87 E87 A87 D87
      have ge_a87 : n0 ≤ a87 := by rw [g87]; exact Z0
      have F87_last : Fld Z h87 a87 "com/example/slot3/slot3/frame/PostChain" "last" "Lcom/example/slot3/slot3/frame/Post;" (.null) := D87 (Or.inl (ow_23 hw)) (ty := (.object "com/example/slot3/slot3/frame/Post")) (by decide)
      have F87_first : Fld Z h87 a87 "com/example/slot3/slot3/frame/PostChain" "first" "Lcom/example/slot3/slot3/frame/Post;" (.null) := D87 (Or.inl (ow_25 hw)) (ty := (.object "com/example/slot3/slot3/frame/Post")) (by decide)
      have F87_count : Fld Z h87 a87 "com/example/slot3/slot3/frame/PostChain" "count" "I" (.int (0 : Int32)) := D87 (Or.inl (ow_31 hw)) (ty := .int) (by decide)
      refine own_dup X87 hx (hb hby at_19) rfl (pc' := 20) rfl ?_
      have z89 : n0 ≤ h87.size := (Nat.le_trans Z0 E87.1)
      refine own_callC X87 hx hZ rfl hown (ow_4 hw) (ow_5 hw) (ow_3 hw) (ow_6 hw) (by decide) (rm_pci l Z a0 hw a87 h87 n0 z89) e87 (W := 1) (by decide) (by decide) opd___V rfl (rest := [(.ref a87)]) rfl (hb hby at_20) (Nat.le_of_eq rfl) (by rw [hml]; rfl) (by decide) (by decide) (pc' := 23) rfl ?_
      intro v88 T88 L88 X88 q88
      obtain ⟨rfl, Nq88, eh88⟩ := q88
      have N88 := Fr.app N0 Nq88
      show own_G p e below s _ _ _ (T88.setTop (mkF m 23 #[.val (.int u0), .val (.int u1), .val (.int (2 : Int32)), .val (.int (1 : Int32)), .unset, .unset, .unset, .unset, .unset, .unset, .unset, .unset, .unset, .unset] [(.ref a87)]))
      refine own_astore X88 hx (hb hby at_23) rfl (l' := #[.val (.int u0), .val (.int u1), .val (.int (2 : Int32)), .val (.int (1 : Int32)), .val (.ref a87), .unset, .unset, .unset, .unset, .unset, .unset, .unset, .unset, .unset]) rfl (pc' := 25) rfl ?_
      refine own_new X88 hx hZ hown (ow_10 hw) (ow_11 hw) (ow_12 hw) eh88 (hb hby at_25) (pc' := 28) rfl (by decide) (by decide) ?_
      intro T90 h90 a90 g90 X90 e90 E90 A90 D90
      have lt_a87_a90 : a87 < a90 := by rw [g90]; exact A87.lt
      have ge_a90 : n0 ≤ a90 := by rw [g90]; exact z89
      have F90_previous : Fld Z h90 a90 "com/example/slot3/slot3/frame/Post" "previous" "Lcom/example/slot3/slot3/frame/Post;" (.null) := D90 (Or.inl (ow_27 hw)) (ty := (.object "com/example/slot3/slot3/frame/Post")) (by decide)
      have F90_chain : Fld Z h90 a90 "com/example/slot3/slot3/frame/Post" "chain" "Lcom/example/slot3/slot3/frame/PostChain;" (.null) := D90 (Or.inl (ow_29 hw)) (ty := (.object "com/example/slot3/slot3/frame/PostChain")) (by decide)
      have F90_following : Fld Z h90 a90 "com/example/slot3/slot3/frame/Post" "following" "Lcom/example/slot3/slot3/frame/Post;" (.null) := D90 (Or.inl (ow_38 hw)) (ty := (.object "com/example/slot3/slot3/frame/Post")) (by decide)
      refine own_dup X90 hx (hb hby at_28) rfl (pc' := 29) rfl ?_
      have z92 : n0 ≤ h90.size := (Nat.le_trans z89 E90.1)
      refine own_callC X90 hx hZ rfl hown (ow_13 hw) (ow_14 hw) (ow_12 hw) (ow_15 hw) (by decide) (rm_poi l Z a0 hw a90 h90 n0 z92) e90 (W := 1) (by decide) (by decide) opd___V rfl (rest := [(.ref a90)]) rfl (hb hby at_29) (Nat.le_of_eq rfl) (by rw [hml]; rfl) (by decide) (by decide) (pc' := 32) rfl ?_
      intro v91 T91 L91 X91 q91
      obtain ⟨rfl, Nq91, eh91⟩ := q91
      have N91 := Fr.app N88 Nq91
      show own_G p e below s _ _ _ (T91.setTop (mkF m 32 #[.val (.int u0), .val (.int u1), .val (.int (2 : Int32)), .val (.int (1 : Int32)), .val (.ref a87), .unset, .unset, .unset, .unset, .unset, .unset, .unset, .unset, .unset] [(.ref a90)]))
      refine own_astore X91 hx (hb hby at_32) rfl (l' := #[.val (.int u0), .val (.int u1), .val (.int (2 : Int32)), .val (.int (1 : Int32)), .val (.ref a87), .val (.ref a90), .unset, .unset, .unset, .unset, .unset, .unset, .unset, .unset]) rfl (pc' := 34) rfl ?_
      have f94 : Exa Z h90 a87 "com/example/slot3/slot3/frame/PostChain" := (A87.ext E90)
      refine own_new X91 hx hZ hown (ow_10 hw) (ow_11 hw) (ow_12 hw) eh91 (hb hby at_34) (pc' := 37) rfl (by decide) (by decide) ?_
      intro T93 h93 a93 g93 X93 e93 E93 A93 D93
      have lt_a87_a93 : a87 < a93 := by rw [g93]; exact f94.lt
      have lt_a90_a93 : a90 < a93 := by rw [g93]; exact A90.lt
      have ge_a93 : n0 ≤ a93 := by rw [g93]; exact z92
      have F93_previous : Fld Z h93 a93 "com/example/slot3/slot3/frame/Post" "previous" "Lcom/example/slot3/slot3/frame/Post;" (.null) := D93 (Or.inl (ow_27 hw)) (ty := (.object "com/example/slot3/slot3/frame/Post")) (by decide)
      have F93_chain : Fld Z h93 a93 "com/example/slot3/slot3/frame/Post" "chain" "Lcom/example/slot3/slot3/frame/PostChain;" (.null) := D93 (Or.inl (ow_29 hw)) (ty := (.object "com/example/slot3/slot3/frame/PostChain")) (by decide)
      have F93_following : Fld Z h93 a93 "com/example/slot3/slot3/frame/Post" "following" "Lcom/example/slot3/slot3/frame/Post;" (.null) := D93 (Or.inl (ow_38 hw)) (ty := (.object "com/example/slot3/slot3/frame/Post")) (by decide)
      refine own_dup X93 hx (hb hby at_37) rfl (pc' := 38) rfl ?_
      have z96 : n0 ≤ h93.size := (Nat.le_trans z92 E93.1)
      refine own_callC X93 hx hZ rfl hown (ow_13 hw) (ow_14 hw) (ow_12 hw) (ow_15 hw) (by decide) (rm_poi l Z a0 hw a93 h93 n0 z96) e93 (W := 1) (by decide) (by decide) opd___V rfl (rest := [(.ref a93)]) rfl (hb hby at_38) (Nat.le_of_eq rfl) (by rw [hml]; rfl) (by decide) (by decide) (pc' := 41) rfl ?_
      intro v95 T95 L95 X95 q95
      obtain ⟨rfl, Nq95, eh95⟩ := q95
      have N95 := Fr.app N91 Nq95
      show own_G p e below s _ _ _ (T95.setTop (mkF m 41 #[.val (.int u0), .val (.int u1), .val (.int (2 : Int32)), .val (.int (1 : Int32)), .val (.ref a87), .val (.ref a90), .unset, .unset, .unset, .unset, .unset, .unset, .unset, .unset] [(.ref a93)]))
      refine own_astore X95 hx (hb hby at_41) rfl (l' := #[.val (.int u0), .val (.int u1), .val (.int (2 : Int32)), .val (.int (1 : Int32)), .val (.ref a87), .val (.ref a90), .val (.ref a93), .unset, .unset, .unset, .unset, .unset, .unset, .unset]) rfl (pc' := 43) rfl ?_
      have f98 : Exa Z h93 a87 "com/example/slot3/slot3/frame/PostChain" := (f94.ext E93)
      have f99 : Exa Z h93 a90 "com/example/slot3/slot3/frame/Post" := (A90.ext E93)
      refine own_new X95 hx hZ hown (ow_10 hw) (ow_11 hw) (ow_12 hw) eh95 (hb hby at_43) (pc' := 46) rfl (by decide) (by decide) ?_
      intro T97 h97 a97 g97 X97 e97 E97 A97 D97
      have lt_a87_a97 : a87 < a97 := by rw [g97]; exact f98.lt
      have lt_a90_a97 : a90 < a97 := by rw [g97]; exact f99.lt
      have lt_a93_a97 : a93 < a97 := by rw [g97]; exact A93.lt
      have ge_a97 : n0 ≤ a97 := by rw [g97]; exact z96
      have F97_previous : Fld Z h97 a97 "com/example/slot3/slot3/frame/Post" "previous" "Lcom/example/slot3/slot3/frame/Post;" (.null) := D97 (Or.inl (ow_27 hw)) (ty := (.object "com/example/slot3/slot3/frame/Post")) (by decide)
      have F97_chain : Fld Z h97 a97 "com/example/slot3/slot3/frame/Post" "chain" "Lcom/example/slot3/slot3/frame/PostChain;" (.null) := D97 (Or.inl (ow_29 hw)) (ty := (.object "com/example/slot3/slot3/frame/PostChain")) (by decide)
      have F97_following : Fld Z h97 a97 "com/example/slot3/slot3/frame/Post" "following" "Lcom/example/slot3/slot3/frame/Post;" (.null) := D97 (Or.inl (ow_38 hw)) (ty := (.object "com/example/slot3/slot3/frame/Post")) (by decide)
      refine own_dup X97 hx (hb hby at_46) rfl (pc' := 47) rfl ?_
      have z101 : n0 ≤ h97.size := (Nat.le_trans z96 E97.1)
      refine own_callC X97 hx hZ rfl hown (ow_13 hw) (ow_14 hw) (ow_12 hw) (ow_15 hw) (by decide) (rm_poi l Z a0 hw a97 h97 n0 z101) e97 (W := 1) (by decide) (by decide) opd___V rfl (rest := [(.ref a97)]) rfl (hb hby at_47) (Nat.le_of_eq rfl) (by rw [hml]; rfl) (by decide) (by decide) (pc' := 50) rfl ?_
      intro v100 T100 L100 X100 q100
      obtain ⟨rfl, Nq100, eh100⟩ := q100
      have N100 := Fr.app N95 Nq100
      show own_G p e below s _ _ _ (T100.setTop (mkF m 50 #[.val (.int u0), .val (.int u1), .val (.int (2 : Int32)), .val (.int (1 : Int32)), .val (.ref a87), .val (.ref a90), .val (.ref a93), .unset, .unset, .unset, .unset, .unset, .unset, .unset] [(.ref a97)]))
      refine own_astore X100 hx (hb hby at_50) rfl (l' := #[.val (.int u0), .val (.int u1), .val (.int (2 : Int32)), .val (.int (1 : Int32)), .val (.ref a87), .val (.ref a90), .val (.ref a93), .val (.ref a97), .unset, .unset, .unset, .unset, .unset, .unset]) rfl (pc' := 52) rfl ?_
      refine own_aload X100 hx (hb hby at_52) rfl rfl (pc' := 54) rfl ?_
      refine own_aload X100 hx (hb hby at_54) rfl rfl (pc' := 56) rfl ?_
      have f103 : Exa Z h97 a87 "com/example/slot3/slot3/frame/PostChain" := (f98.ext E97)
      have f104 : Exa Z h97 a90 "com/example/slot3/slot3/frame/Post" := (f99.ext E97)
      have f105 : Fld Z h97 a87 "com/example/slot3/slot3/frame/PostChain" "first" "Lcom/example/slot3/slot3/frame/Post;" (.null) := (((F87_first.ext E90).ext E93).ext E97)
      have f106 : Fld Z h97 a87 "com/example/slot3/slot3/frame/PostChain" "last" "Lcom/example/slot3/slot3/frame/Post;" (.null) := (((F87_last.ext E90).ext E93).ext E97)
      have f107 : Fld Z h97 a87 "com/example/slot3/slot3/frame/PostChain" "count" "I" (.int (0 : Int32)) := (((F87_count.ext E90).ext E93).ext E97)
      have f108 : Fld Z h97 a90 "com/example/slot3/slot3/frame/Post" "following" "Lcom/example/slot3/slot3/frame/Post;" (.null) := ((F90_following.ext E93).ext E97)
      have f109 : Fld Z h97 a90 "com/example/slot3/slot3/frame/Post" "previous" "Lcom/example/slot3/slot3/frame/Post;" (.null) := ((F90_previous.ext E93).ext E97)
      have f110 : Fld Z h97 a90 "com/example/slot3/slot3/frame/Post" "chain" "Lcom/example/slot3/slot3/frame/PostChain;" (.null) := ((F90_chain.ext E93).ext E97)
      refine own_callV X100 hx hZ hown (ow_17 hw) (ow_18 hw) (ow_20 hw) (ow_19 hw) (ow_3 hw) (ow_21 hw) (by decide) f103 (rm_ap1 l Z a0 hw a87 a90 (0 : Int32) .null .null .null .null h97 n0 z101 f103 f104 f105 f106 f107 f108 f109 f110 ge_a87 ge_a90 (Nat.ne_of_lt lt_a87_a90)) eh100 (W := 0) (by decide) (by decide) opd__Lcom_example_slot3_slot3_frame_Post__V rfl (rest := []) rfl (hb hby at_56) (Nat.le_of_eq rfl) (by rw [hml]; rfl) (by decide) (by decide) (pc' := 59) rfl ?_
      intro v102 T102 L102 X102 q102
      obtain ⟨rfl, Nq102, K102, p102_0, p102_1, p102_2, p102_3, p102_4, p102_5⟩ := q102
      have N102 := Fr.app N100 Nq102
      show own_G p e below s _ _ _ (T102.setTop (mkF m 59 #[.val (.int u0), .val (.int u1), .val (.int (2 : Int32)), .val (.int (1 : Int32)), .val (.ref a87), .val (.ref a90), .val (.ref a93), .val (.ref a97), .unset, .unset, .unset, .unset, .unset, .unset] []))
      refine own_iloadN X102 hx (hb hby at_59) rfl (pc' := 60) rfl ?_
      refine own_iconst X102 hx (hb hby at_60) (z := (2 : Int32)) rfl (pc' := 61) rfl ?_
      refine own_icmpF X102 hx (hb hby at_61) (by decide) (pc' := 64) rfl ?_
      refine own_aload X102 hx (hb hby at_64) rfl rfl (pc' := 66) rfl ?_
      refine own_aload X102 hx (hb hby at_66) rfl rfl (pc' := 68) rfl ?_
      have f112 : Exa Z T102.heap a87 "com/example/slot3/slot3/frame/PostChain" := (f103.keep K102)
      have f113 : Exa Z T102.heap a93 "com/example/slot3/slot3/frame/Post" := ((A93.ext E97).keep K102)
      have f114 : Exa Z T102.heap a90 "com/example/slot3/slot3/frame/Post" := (f104.keep K102)
      have f115 : Fld Z T102.heap a93 "com/example/slot3/slot3/frame/Post" "following" "Lcom/example/slot3/slot3/frame/Post;" (.null) := ((F93_following.ext E97).keep K102 (ninS (Nat.ne_of_gt lt_a87_a93) (ninS (Nat.ne_of_gt lt_a90_a93) nin0)))
      have f116 : Fld Z T102.heap a93 "com/example/slot3/slot3/frame/Post" "previous" "Lcom/example/slot3/slot3/frame/Post;" (.null) := ((F93_previous.ext E97).keep K102 (ninS (Nat.ne_of_gt lt_a87_a93) (ninS (Nat.ne_of_gt lt_a90_a93) nin0)))
      have f117 : Fld Z T102.heap a93 "com/example/slot3/slot3/frame/Post" "chain" "Lcom/example/slot3/slot3/frame/PostChain;" (.null) := ((F93_chain.ext E97).keep K102 (ninS (Nat.ne_of_gt lt_a87_a93) (ninS (Nat.ne_of_gt lt_a90_a93) nin0)))
      have z118 : n0 ≤ T102.heap.size := (Nat.le_trans z101 K102.1)
      refine own_callV X102 hx hZ hown (ow_17 hw) (ow_18 hw) (ow_20 hw) (ow_19 hw) (ow_3 hw) (ow_21 hw) (by decide) f112 (rm_ap2 l Z a0 hw a87 a93 a90 ((0 : Int32) + (1 : Int32)) (.ref a90) .null .null .null .null .null (.ref a87) T102.heap n0 z118 f112 f113 p102_0 p102_1 p102_2 f114 f115 f116 f117 p102_3 p102_4 p102_5 ge_a87 ge_a93 ge_a90 (Nat.ne_of_lt lt_a87_a93) (Nat.ne_of_lt lt_a87_a90) (Nat.ne_of_gt lt_a90_a93)) rfl (W := 0) (by decide) (by decide) opd__Lcom_example_slot3_slot3_frame_Post__V rfl (rest := []) rfl (hb hby at_68) (Nat.le_of_eq rfl) (by rw [hml]; rfl) (by decide) (by decide) (pc' := 71) rfl ?_
      intro v111 T111 L111 X111 q111
      obtain ⟨rfl, Nq111, K111, p111_0, p111_1, p111_2, p111_3, p111_4, p111_5, p111_6, p111_7, p111_8⟩ := q111
      have N111 := Fr.app N102 Nq111
      show own_G p e below s _ _ _ (T111.setTop (mkF m 71 #[.val (.int u0), .val (.int u1), .val (.int (2 : Int32)), .val (.int (1 : Int32)), .val (.ref a87), .val (.ref a90), .val (.ref a93), .val (.ref a97), .unset, .unset, .unset, .unset, .unset, .unset] []))
      refine own_iloadN X111 hx (hb hby at_71) rfl (pc' := 72) rfl ?_
      refine own_iconst X111 hx (hb hby at_72) (z := (3 : Int32)) rfl (pc' := 73) rfl ?_
      refine own_icmpT X111 hx (hb hby at_73) (by decide) (by decide) (pc' := 83) rfl ?_
      refine own_iloadN X111 hx (hb hby at_83) rfl (pc' := 84) rfl ?_
      refine own_ifT X111 hx (hb hby at_84) (by decide) (by decide) (pc' := 92) rfl ?_
      refine own_iloadN X111 hx (hb hby at_92) rfl (pc' := 93) rfl ?_
      refine own_iconst X111 hx (hb hby at_93) (z := (1 : Int32)) rfl (pc' := 94) rfl ?_
      refine own_icmpF X111 hx (hb hby at_94) (by decide) (pc' := 97) rfl ?_
      refine own_aload X111 hx (hb hby at_97) rfl rfl (pc' := 99) rfl ?_
      refine own_goto X111 hx (hb hby at_99) (by decide) (pc' := 104) rfl ?_
      refine own_astore X111 hx (hb hby at_104) rfl (l' := #[.val (.int u0), .val (.int u1), .val (.int (2 : Int32)), .val (.int (1 : Int32)), .val (.ref a87), .val (.ref a90), .val (.ref a93), .val (.ref a97), .val (.ref a93), .unset, .unset, .unset, .unset, .unset]) rfl (pc' := 106) rfl ?_
      refine own_aload X111 hx (hb hby at_106) rfl rfl (pc' := 108) rfl ?_
      refine own_aload X111 hx (hb hby at_108) rfl rfl (pc' := 110) rfl ?_
      have f120 : Exa Z T111.heap a87 "com/example/slot3/slot3/frame/PostChain" := (f112.keep K111)
      have f121 : Exa Z T111.heap a93 "com/example/slot3/slot3/frame/Post" := (f113.keep K111)
      have f122 : Exa Z T111.heap a90 "com/example/slot3/slot3/frame/Post" := (f114.keep K111)
      have z123 : n0 ≤ T111.heap.size := (Nat.le_trans z118 K111.1)
      refine own_callV X111 hx hZ hown (ow_32 hw) (ow_33 hw) (ow_35 hw) (ow_34 hw) (ow_3 hw) (ow_36 hw) (by decide) f120 (rm_ulrn l Z a0 hw a87 a93 a90 (((0 : Int32) + (1 : Int32)) + (1 : Int32)) (.ref a90) (.ref a93) (.ref a87) (.ref a93) .null (.ref a87) T111.heap n0 z123 f120 f121 p111_0 p111_1 p111_2 p111_3 p111_4 p111_5 f122 p111_6 p111_7 p111_8 ge_a87 ge_a93 ge_a90 (Nat.ne_of_lt lt_a87_a93) (Nat.ne_of_lt lt_a87_a90) (Nat.ne_of_gt lt_a90_a93)) rfl (W := 0) (by decide) (by decide) opd__Lcom_example_slot3_slot3_frame_Post__V rfl (rest := []) rfl (hb hby at_110) (Nat.le_of_eq rfl) (by rw [hml]; rfl) (by decide) (by decide) (pc' := 113) rfl ?_
      intro v119 T119 L119 X119 q119
      obtain ⟨rfl, Nq119, K119, p119_0, p119_1, p119_2, p119_3, p119_4, p119_5, p119_6, p119_7, p119_8⟩ := q119
      have N119 := Fr.app N111 Nq119
      show own_G p e below s _ _ _ (T119.setTop (mkF m 113 #[.val (.int u0), .val (.int u1), .val (.int (2 : Int32)), .val (.int (1 : Int32)), .val (.ref a87), .val (.ref a90), .val (.ref a93), .val (.ref a97), .val (.ref a93), .unset, .unset, .unset, .unset, .unset] []))
      refine own_iloadN X119 hx (hb hby at_113) rfl (pc' := 114) rfl ?_
      refine own_iconst X119 hx (hb hby at_114) (z := (1 : Int32)) rfl (pc' := 115) rfl ?_
      refine own_isub X119 hx (hb hby at_115) (pc' := 116) rfl ?_
      refine own_istore X119 hx (hb hby at_116) (l' := #[.val (.int u0), .val (.int u1), .val (.int (2 : Int32)), .val (.int (1 : Int32)), .val (.ref a87), .val (.ref a90), .val (.ref a93), .val (.ref a97), .val (.ref a93), .val (.int ((2 : Int32) - (1 : Int32))), .unset, .unset, .unset, .unset]) rfl (pc' := 118) rfl ?_
      refine own_iload X119 hx (hb hby at_118) rfl (pc' := 120) rfl ?_
      refine own_iconst X119 hx (hb hby at_120) (z := (1 : Int32)) rfl (pc' := 121) rfl ?_
      refine own_icmpF X119 hx (hb hby at_121) (by decide) (pc' := 124) rfl ?_
      refine own_iloadN X119 hx (hb hby at_124) rfl (pc' := 125) rfl ?_
      refine own_ifT X119 hx (hb hby at_125) (by decide) (by decide) (pc' := 133) rfl ?_
      refine own_aload X119 hx (hb hby at_133) rfl rfl (pc' := 135) rfl ?_
      refine own_goto X119 hx (hb hby at_135) (by decide) (pc' := 139) rfl ?_
      refine own_astore X119 hx (hb hby at_139) rfl (l' := #[.val (.int u0), .val (.int u1), .val (.int (2 : Int32)), .val (.int (1 : Int32)), .val (.ref a87), .val (.ref a90), .val (.ref a93), .val (.ref a97), .val (.ref a93), .val (.int ((2 : Int32) - (1 : Int32))), .val (.ref a90), .unset, .unset, .unset]) rfl (pc' := 141) rfl ?_
      refine own_iload X119 hx (hb hby at_141) rfl (pc' := 143) rfl ?_
      refine own_iconst X119 hx (hb hby at_143) (z := (2 : Int32)) rfl (pc' := 144) rfl ?_
      refine own_icmpT X119 hx (hb hby at_144) (by decide) (by decide) (pc' := 162) rfl ?_
      refine own_aconstNull X119 hx (hb hby at_162) (pc' := 163) rfl ?_
      refine own_astore X119 hx (hb hby at_163) rfl (l' := #[.val (.int u0), .val (.int u1), .val (.int (2 : Int32)), .val (.int (1 : Int32)), .val (.ref a87), .val (.ref a90), .val (.ref a93), .val (.ref a97), .val (.ref a93), .val (.int ((2 : Int32) - (1 : Int32))), .val (.ref a90), .val (.null), .unset, .unset]) rfl (pc' := 165) rfl ?_
      refine own_iload X119 hx (hb hby at_165) rfl (pc' := 167) rfl ?_
      refine own_ifT X119 hx (hb hby at_167) (by decide) (by decide) (pc' := 174) rfl ?_
      refine own_iload X119 hx (hb hby at_174) rfl (pc' := 176) rfl ?_
      refine own_iconst X119 hx (hb hby at_176) (z := (1 : Int32)) rfl (pc' := 177) rfl ?_
      refine own_icmpF X119 hx (hb hby at_177) (by decide) (pc' := 180) rfl ?_
      refine own_aload X119 hx (hb hby at_180) rfl rfl (pc' := 182) rfl ?_
      refine own_goto X119 hx (hb hby at_182) (by decide) (pc' := 187) rfl ?_
      refine own_astore X119 hx (hb hby at_187) rfl (l' := #[.val (.int u0), .val (.int u1), .val (.int (2 : Int32)), .val (.int (1 : Int32)), .val (.ref a87), .val (.ref a90), .val (.ref a93), .val (.ref a97), .val (.ref a93), .val (.int ((2 : Int32) - (1 : Int32))), .val (.ref a90), .val (.null), .val (.ref a90), .unset]) rfl (pc' := 189) rfl ?_
      refine own_aload X119 hx (hb hby at_189) rfl rfl (pc' := 191) rfl ?_
      refine own_getF X119 hx hZ hown (ow_39 hw) rfl p119_0 (hb hby at_191) (pc' := 194) rfl ?_
      intro T124 X124 e124
      refine own_aload X124 hx (hb hby at_194) rfl rfl (pc' := 196) rfl ?_
      refine own_acmpF X124 hx (hb hby at_196) rfl rfl (by simp [XT.acmp]) (pc' := 199) rfl ?_
      refine own_aload X124 hx (hb hby at_199) rfl rfl (pc' := 201) rfl ?_
      refine own_getF X124 hx hZ hown (ow_40 hw) e124 p119_1 (hb hby at_201) (pc' := 204) rfl ?_
      intro T125 X125 e125
      refine own_aload X125 hx (hb hby at_204) rfl rfl (pc' := 206) rfl ?_
      refine own_acmpF X125 hx (hb hby at_206) rfl rfl (by simp [XT.acmp]) (pc' := 209) rfl ?_
      refine own_aload X125 hx (hb hby at_209) rfl rfl (pc' := 211) rfl ?_
      refine own_getF X125 hx hZ hown (ow_41 hw) e125 p119_2 (hb hby at_211) (pc' := 214) rfl ?_
      intro T126 X126 e126
      refine own_iload X126 hx (hb hby at_214) rfl (pc' := 216) rfl ?_
      refine own_icmpF X126 hx (hb hby at_216) (by decide) (pc' := 219) rfl ?_
      refine own_iconst X126 hx (hb hby at_219) (z := (1 : Int32)) rfl (pc' := 220) rfl ?_
      refine own_goto X126 hx (hb hby at_220) (by decide) (pc' := 224) rfl ?_
      refine own_istore X126 hx (hb hby at_224) (l' := #[.val (.int u0), .val (.int u1), .val (.int (2 : Int32)), .val (.int (1 : Int32)), .val (.ref a87), .val (.ref a90), .val (.ref a93), .val (.ref a97), .val (.ref a93), .val (.int ((2 : Int32) - (1 : Int32))), .val (.ref a90), .val (.null), .val (.ref a90), .val (.int (1 : Int32))]) rfl (pc' := 226) rfl ?_
      refine own_iload X126 hx (hb hby at_226) rfl (pc' := 228) rfl ?_
      refine own_ifF X126 hx (hb hby at_228) (by decide) (pc' := 231) rfl ?_
      refine own_aload X126 hx (hb hby at_231) rfl rfl (pc' := 233) rfl ?_
      refine own_getF X126 hx hZ hown (ow_42 hw) e126 p119_3 (hb hby at_233) (pc' := 236) rfl ?_
      intro T127 X127 e127
      refine own_ifnonnullF X127 hx (hb hby at_236) (pc' := 239) rfl ?_
      refine own_aload X127 hx (hb hby at_239) rfl rfl (pc' := 241) rfl ?_
      refine own_getF X127 hx hZ hown (ow_43 hw) e127 p119_4 (hb hby at_241) (pc' := 244) rfl ?_
      intro T128 X128 e128
      refine own_ifnonnullF X128 hx (hb hby at_244) (pc' := 247) rfl ?_
      refine own_aload X128 hx (hb hby at_247) rfl rfl (pc' := 249) rfl ?_
      refine own_getF X128 hx hZ hown (ow_44 hw) e128 p119_5 (hb hby at_249) (pc' := 252) rfl ?_
      intro T129 X129 e129
      refine own_ifnonnullF X129 hx (hb hby at_252) (pc' := 255) rfl ?_
      refine own_iconst X129 hx (hb hby at_255) (z := (1 : Int32)) rfl (pc' := 256) rfl ?_
      refine own_goto X129 hx (hb hby at_256) (by decide) (pc' := 260) rfl ?_
      refine own_istore X129 hx (hb hby at_260) (l' := #[.val (.int u0), .val (.int u1), .val (.int (2 : Int32)), .val (.int (1 : Int32)), .val (.ref a87), .val (.ref a90), .val (.ref a93), .val (.ref a97), .val (.ref a93), .val (.int ((2 : Int32) - (1 : Int32))), .val (.ref a90), .val (.null), .val (.ref a90), .val (.int (1 : Int32))]) rfl (pc' := 262) rfl ?_
      refine own_aload X129 hx (hb hby at_262) rfl rfl (pc' := 264) rfl ?_
      refine own_ifnullF X129 hx (hb hby at_264) (pc' := 267) rfl ?_
      refine own_iload X129 hx (hb hby at_267) rfl (pc' := 269) rfl ?_
      refine own_ifF X129 hx (hb hby at_269) (by decide) (pc' := 272) rfl ?_
      refine own_aload X129 hx (hb hby at_272) rfl rfl (pc' := 274) rfl ?_
      refine own_getF X129 hx hZ hown (ow_43 hw) e129 p119_7 (hb hby at_274) (pc' := 277) rfl ?_
      intro T130 X130 e130
      refine own_ifnonnullF X130 hx (hb hby at_277) (pc' := 280) rfl ?_
      refine own_aload X130 hx (hb hby at_280) rfl rfl (pc' := 282) rfl ?_
      refine own_getF X130 hx hZ hown (ow_42 hw) e130 p119_6 (hb hby at_282) (pc' := 285) rfl ?_
      intro T131 X131 e131
      refine own_aload X131 hx (hb hby at_285) rfl rfl (pc' := 287) rfl ?_
      refine own_acmpF X131 hx (hb hby at_287) rfl rfl (by simp [XT.acmp]) (pc' := 290) rfl ?_
      refine own_aload X131 hx (hb hby at_290) rfl rfl (pc' := 292) rfl ?_
      refine own_getF X131 hx hZ hown (ow_44 hw) e131 p119_8 (hb hby at_292) (pc' := 295) rfl ?_
      intro T132 X132 e132
      refine own_aload X132 hx (hb hby at_295) rfl rfl (pc' := 297) rfl ?_
      refine own_acmpF X132 hx (hb hby at_297) rfl rfl (by simp [XT.acmp]) (pc' := 300) rfl ?_
      refine own_iconst X132 hx (hb hby at_300) (z := (1 : Int32)) rfl (pc' := 301) rfl ?_
      refine own_goto X132 hx (hb hby at_301) (by decide) (pc' := 305) rfl ?_
      refine own_istore X132 hx (hb hby at_305) (l' := #[.val (.int u0), .val (.int u1), .val (.int (2 : Int32)), .val (.int (1 : Int32)), .val (.ref a87), .val (.ref a90), .val (.ref a93), .val (.ref a97), .val (.ref a93), .val (.int ((2 : Int32) - (1 : Int32))), .val (.ref a90), .val (.null), .val (.ref a90), .val (.int (1 : Int32))]) rfl (pc' := 307) rfl ?_
      refine own_aload X132 hx (hb hby at_307) rfl rfl (pc' := 309) rfl ?_
      refine own_ifnullT X132 hx (hb hby at_309) (by decide) (pc' := 352) rfl ?_
      refine own_iload X132 hx (hb hby at_352) rfl (pc' := 354) rfl ?_
      exact own_retZ X132 hx hret hlk (Or.inr rfl) (hb hby at_354) ⟨rfl, N119⟩ (by decide) (by decide)
  · rw [c3]
    refine own_iloadN X0 hx (hb hby at_9) rfl (pc' := 10) rfl ?_
    refine own_ldc X0 hx hZ hown (ow_0 hw) (hb hby at_10) (pc' := 12) rfl ?_
    refine own_iand X0 hx (hb hby at_12) (pc' := 13) rfl ?_
    refine own_iloadN X0 hx (hb hby at_13) rfl (pc' := 14) rfl ?_
    refine own_irem X0 hx (hb hby at_14) (by decide) (pc' := 15) rfl ?_
    refine own_istoreN X0 hx (hb hby at_15) (l' := #[.val (.int u0), .val (.int u1), .val (.int (3 : Int32)), .val (.int ((u1 &&& (2147483647 : Int32)) % (3 : Int32))), .unset, .unset, .unset, .unset, .unset, .unset, .unset, .unset, .unset, .unset]) rfl (pc' := 16) rfl ?_
    rcases own_w3 u1 with c133 | c134 | c135
    · rw [c133]
      refine own_new X0 hx hZ hown (ow_1 hw) (ow_2 hw) (ow_3 hw) e0 (hb hby at_16) (pc' := 19) rfl (by decide) (by decide) ?_
      intro T136 h136 a136 g136 X136 e136 E136 A136 D136
      have ge_a136 : n0 ≤ a136 := by rw [g136]; exact Z0
      have F136_last : Fld Z h136 a136 "com/example/slot3/slot3/frame/PostChain" "last" "Lcom/example/slot3/slot3/frame/Post;" (.null) := D136 (Or.inl (ow_23 hw)) (ty := (.object "com/example/slot3/slot3/frame/Post")) (by decide)
      have F136_first : Fld Z h136 a136 "com/example/slot3/slot3/frame/PostChain" "first" "Lcom/example/slot3/slot3/frame/Post;" (.null) := D136 (Or.inl (ow_25 hw)) (ty := (.object "com/example/slot3/slot3/frame/Post")) (by decide)
      have F136_count : Fld Z h136 a136 "com/example/slot3/slot3/frame/PostChain" "count" "I" (.int (0 : Int32)) := D136 (Or.inl (ow_31 hw)) (ty := .int) (by decide)
      refine own_dup X136 hx (hb hby at_19) rfl (pc' := 20) rfl ?_
      have z138 : n0 ≤ h136.size := (Nat.le_trans Z0 E136.1)
      refine own_callC X136 hx hZ rfl hown (ow_4 hw) (ow_5 hw) (ow_3 hw) (ow_6 hw) (by decide) (rm_pci l Z a0 hw a136 h136 n0 z138) e136 (W := 1) (by decide) (by decide) opd___V rfl (rest := [(.ref a136)]) rfl (hb hby at_20) (Nat.le_of_eq rfl) (by rw [hml]; rfl) (by decide) (by decide) (pc' := 23) rfl ?_
      intro v137 T137 L137 X137 q137
      obtain ⟨rfl, Nq137, eh137⟩ := q137
      have N137 := Fr.app N0 Nq137
      show own_G p e below s _ _ _ (T137.setTop (mkF m 23 #[.val (.int u0), .val (.int u1), .val (.int (3 : Int32)), .val (.int (0 : Int32)), .unset, .unset, .unset, .unset, .unset, .unset, .unset, .unset, .unset, .unset] [(.ref a136)]))
      refine own_astore X137 hx (hb hby at_23) rfl (l' := #[.val (.int u0), .val (.int u1), .val (.int (3 : Int32)), .val (.int (0 : Int32)), .val (.ref a136), .unset, .unset, .unset, .unset, .unset, .unset, .unset, .unset, .unset]) rfl (pc' := 25) rfl ?_
      refine own_new X137 hx hZ hown (ow_10 hw) (ow_11 hw) (ow_12 hw) eh137 (hb hby at_25) (pc' := 28) rfl (by decide) (by decide) ?_
      intro T139 h139 a139 g139 X139 e139 E139 A139 D139
      have lt_a136_a139 : a136 < a139 := by rw [g139]; exact A136.lt
      have ge_a139 : n0 ≤ a139 := by rw [g139]; exact z138
      have F139_previous : Fld Z h139 a139 "com/example/slot3/slot3/frame/Post" "previous" "Lcom/example/slot3/slot3/frame/Post;" (.null) := D139 (Or.inl (ow_27 hw)) (ty := (.object "com/example/slot3/slot3/frame/Post")) (by decide)
      have F139_chain : Fld Z h139 a139 "com/example/slot3/slot3/frame/Post" "chain" "Lcom/example/slot3/slot3/frame/PostChain;" (.null) := D139 (Or.inl (ow_29 hw)) (ty := (.object "com/example/slot3/slot3/frame/PostChain")) (by decide)
      have F139_following : Fld Z h139 a139 "com/example/slot3/slot3/frame/Post" "following" "Lcom/example/slot3/slot3/frame/Post;" (.null) := D139 (Or.inl (ow_38 hw)) (ty := (.object "com/example/slot3/slot3/frame/Post")) (by decide)
      refine own_dup X139 hx (hb hby at_28) rfl (pc' := 29) rfl ?_
      have z141 : n0 ≤ h139.size := (Nat.le_trans z138 E139.1)
      refine own_callC X139 hx hZ rfl hown (ow_13 hw) (ow_14 hw) (ow_12 hw) (ow_15 hw) (by decide) (rm_poi l Z a0 hw a139 h139 n0 z141) e139 (W := 1) (by decide) (by decide) opd___V rfl (rest := [(.ref a139)]) rfl (hb hby at_29) (Nat.le_of_eq rfl) (by rw [hml]; rfl) (by decide) (by decide) (pc' := 32) rfl ?_
      intro v140 T140 L140 X140 q140
      obtain ⟨rfl, Nq140, eh140⟩ := q140
      have N140 := Fr.app N137 Nq140
      show own_G p e below s _ _ _ (T140.setTop (mkF m 32 #[.val (.int u0), .val (.int u1), .val (.int (3 : Int32)), .val (.int (0 : Int32)), .val (.ref a136), .unset, .unset, .unset, .unset, .unset, .unset, .unset, .unset, .unset] [(.ref a139)]))
      refine own_astore X140 hx (hb hby at_32) rfl (l' := #[.val (.int u0), .val (.int u1), .val (.int (3 : Int32)), .val (.int (0 : Int32)), .val (.ref a136), .val (.ref a139), .unset, .unset, .unset, .unset, .unset, .unset, .unset, .unset]) rfl (pc' := 34) rfl ?_
      have f143 : Exa Z h139 a136 "com/example/slot3/slot3/frame/PostChain" := (A136.ext E139)
      refine own_new X140 hx hZ hown (ow_10 hw) (ow_11 hw) (ow_12 hw) eh140 (hb hby at_34) (pc' := 37) rfl (by decide) (by decide) ?_
      intro T142 h142 a142 g142 X142 e142 E142 A142 D142
      have lt_a136_a142 : a136 < a142 := by rw [g142]; exact f143.lt
      have lt_a139_a142 : a139 < a142 := by rw [g142]; exact A139.lt
      have ge_a142 : n0 ≤ a142 := by rw [g142]; exact z141
      have F142_previous : Fld Z h142 a142 "com/example/slot3/slot3/frame/Post" "previous" "Lcom/example/slot3/slot3/frame/Post;" (.null) := D142 (Or.inl (ow_27 hw)) (ty := (.object "com/example/slot3/slot3/frame/Post")) (by decide)
      have F142_chain : Fld Z h142 a142 "com/example/slot3/slot3/frame/Post" "chain" "Lcom/example/slot3/slot3/frame/PostChain;" (.null) := D142 (Or.inl (ow_29 hw)) (ty := (.object "com/example/slot3/slot3/frame/PostChain")) (by decide)
      have F142_following : Fld Z h142 a142 "com/example/slot3/slot3/frame/Post" "following" "Lcom/example/slot3/slot3/frame/Post;" (.null) := D142 (Or.inl (ow_38 hw)) (ty := (.object "com/example/slot3/slot3/frame/Post")) (by decide)
      refine own_dup X142 hx (hb hby at_37) rfl (pc' := 38) rfl ?_
      have z145 : n0 ≤ h142.size := (Nat.le_trans z141 E142.1)
      refine own_callC X142 hx hZ rfl hown (ow_13 hw) (ow_14 hw) (ow_12 hw) (ow_15 hw) (by decide) (rm_poi l Z a0 hw a142 h142 n0 z145) e142 (W := 1) (by decide) (by decide) opd___V rfl (rest := [(.ref a142)]) rfl (hb hby at_38) (Nat.le_of_eq rfl) (by rw [hml]; rfl) (by decide) (by decide) (pc' := 41) rfl ?_
      intro v144 T144 L144 X144 q144
      obtain ⟨rfl, Nq144, eh144⟩ := q144
      have N144 := Fr.app N140 Nq144
      show own_G p e below s _ _ _ (T144.setTop (mkF m 41 #[.val (.int u0), .val (.int u1), .val (.int (3 : Int32)), .val (.int (0 : Int32)), .val (.ref a136), .val (.ref a139), .unset, .unset, .unset, .unset, .unset, .unset, .unset, .unset] [(.ref a142)]))
      refine own_astore X144 hx (hb hby at_41) rfl (l' := #[.val (.int u0), .val (.int u1), .val (.int (3 : Int32)), .val (.int (0 : Int32)), .val (.ref a136), .val (.ref a139), .val (.ref a142), .unset, .unset, .unset, .unset, .unset, .unset, .unset]) rfl (pc' := 43) rfl ?_
      have f147 : Exa Z h142 a136 "com/example/slot3/slot3/frame/PostChain" := (f143.ext E142)
      have f148 : Exa Z h142 a139 "com/example/slot3/slot3/frame/Post" := (A139.ext E142)
      refine own_new X144 hx hZ hown (ow_10 hw) (ow_11 hw) (ow_12 hw) eh144 (hb hby at_43) (pc' := 46) rfl (by decide) (by decide) ?_
      intro T146 h146 a146 g146 X146 e146 E146 A146 D146
      have lt_a136_a146 : a136 < a146 := by rw [g146]; exact f147.lt
      have lt_a139_a146 : a139 < a146 := by rw [g146]; exact f148.lt
      have lt_a142_a146 : a142 < a146 := by rw [g146]; exact A142.lt
      have ge_a146 : n0 ≤ a146 := by rw [g146]; exact z145
      have F146_previous : Fld Z h146 a146 "com/example/slot3/slot3/frame/Post" "previous" "Lcom/example/slot3/slot3/frame/Post;" (.null) := D146 (Or.inl (ow_27 hw)) (ty := (.object "com/example/slot3/slot3/frame/Post")) (by decide)
      have F146_chain : Fld Z h146 a146 "com/example/slot3/slot3/frame/Post" "chain" "Lcom/example/slot3/slot3/frame/PostChain;" (.null) := D146 (Or.inl (ow_29 hw)) (ty := (.object "com/example/slot3/slot3/frame/PostChain")) (by decide)
      have F146_following : Fld Z h146 a146 "com/example/slot3/slot3/frame/Post" "following" "Lcom/example/slot3/slot3/frame/Post;" (.null) := D146 (Or.inl (ow_38 hw)) (ty := (.object "com/example/slot3/slot3/frame/Post")) (by decide)
      refine own_dup X146 hx (hb hby at_46) rfl (pc' := 47) rfl ?_
      have z150 : n0 ≤ h146.size := (Nat.le_trans z145 E146.1)
      refine own_callC X146 hx hZ rfl hown (ow_13 hw) (ow_14 hw) (ow_12 hw) (ow_15 hw) (by decide) (rm_poi l Z a0 hw a146 h146 n0 z150) e146 (W := 1) (by decide) (by decide) opd___V rfl (rest := [(.ref a146)]) rfl (hb hby at_47) (Nat.le_of_eq rfl) (by rw [hml]; rfl) (by decide) (by decide) (pc' := 50) rfl ?_
      intro v149 T149 L149 X149 q149
      obtain ⟨rfl, Nq149, eh149⟩ := q149
      have N149 := Fr.app N144 Nq149
      show own_G p e below s _ _ _ (T149.setTop (mkF m 50 #[.val (.int u0), .val (.int u1), .val (.int (3 : Int32)), .val (.int (0 : Int32)), .val (.ref a136), .val (.ref a139), .val (.ref a142), .unset, .unset, .unset, .unset, .unset, .unset, .unset] [(.ref a146)]))
      refine own_astore X149 hx (hb hby at_50) rfl (l' := #[.val (.int u0), .val (.int u1), .val (.int (3 : Int32)), .val (.int (0 : Int32)), .val (.ref a136), .val (.ref a139), .val (.ref a142), .val (.ref a146), .unset, .unset, .unset, .unset, .unset, .unset]) rfl (pc' := 52) rfl ?_
      refine own_aload X149 hx (hb hby at_52) rfl rfl (pc' := 54) rfl ?_
      refine own_aload X149 hx (hb hby at_54) rfl rfl (pc' := 56) rfl ?_
      have f152 : Exa Z h146 a136 "com/example/slot3/slot3/frame/PostChain" := (f147.ext E146)
      have f153 : Exa Z h146 a139 "com/example/slot3/slot3/frame/Post" := (f148.ext E146)
      have f154 : Fld Z h146 a136 "com/example/slot3/slot3/frame/PostChain" "first" "Lcom/example/slot3/slot3/frame/Post;" (.null) := (((F136_first.ext E139).ext E142).ext E146)
      have f155 : Fld Z h146 a136 "com/example/slot3/slot3/frame/PostChain" "last" "Lcom/example/slot3/slot3/frame/Post;" (.null) := (((F136_last.ext E139).ext E142).ext E146)
      have f156 : Fld Z h146 a136 "com/example/slot3/slot3/frame/PostChain" "count" "I" (.int (0 : Int32)) := (((F136_count.ext E139).ext E142).ext E146)
      have f157 : Fld Z h146 a139 "com/example/slot3/slot3/frame/Post" "following" "Lcom/example/slot3/slot3/frame/Post;" (.null) := ((F139_following.ext E142).ext E146)
      have f158 : Fld Z h146 a139 "com/example/slot3/slot3/frame/Post" "previous" "Lcom/example/slot3/slot3/frame/Post;" (.null) := ((F139_previous.ext E142).ext E146)
      have f159 : Fld Z h146 a139 "com/example/slot3/slot3/frame/Post" "chain" "Lcom/example/slot3/slot3/frame/PostChain;" (.null) := ((F139_chain.ext E142).ext E146)
      refine own_callV X149 hx hZ hown (ow_17 hw) (ow_18 hw) (ow_20 hw) (ow_19 hw) (ow_3 hw) (ow_21 hw) (by decide) f152 (rm_ap1 l Z a0 hw a136 a139 (0 : Int32) .null .null .null .null h146 n0 z150 f152 f153 f154 f155 f156 f157 f158 f159 ge_a136 ge_a139 (Nat.ne_of_lt lt_a136_a139)) eh149 (W := 0) (by decide) (by decide) opd__Lcom_example_slot3_slot3_frame_Post__V rfl (rest := []) rfl (hb hby at_56) (Nat.le_of_eq rfl) (by rw [hml]; rfl) (by decide) (by decide) (pc' := 59) rfl ?_
      intro v151 T151 L151 X151 q151
      obtain ⟨rfl, Nq151, K151, p151_0, p151_1, p151_2, p151_3, p151_4, p151_5⟩ := q151
      have N151 := Fr.app N149 Nq151
      show own_G p e below s _ _ _ (T151.setTop (mkF m 59 #[.val (.int u0), .val (.int u1), .val (.int (3 : Int32)), .val (.int (0 : Int32)), .val (.ref a136), .val (.ref a139), .val (.ref a142), .val (.ref a146), .unset, .unset, .unset, .unset, .unset, .unset] []))
      refine own_iloadN X151 hx (hb hby at_59) rfl (pc' := 60) rfl ?_
      refine own_iconst X151 hx (hb hby at_60) (z := (2 : Int32)) rfl (pc' := 61) rfl ?_
      refine own_icmpF X151 hx (hb hby at_61) (by decide) (pc' := 64) rfl ?_
      refine own_aload X151 hx (hb hby at_64) rfl rfl (pc' := 66) rfl ?_
      refine own_aload X151 hx (hb hby at_66) rfl rfl (pc' := 68) rfl ?_
      have f161 : Exa Z T151.heap a136 "com/example/slot3/slot3/frame/PostChain" := (f152.keep K151)
      have f162 : Exa Z T151.heap a142 "com/example/slot3/slot3/frame/Post" := ((A142.ext E146).keep K151)
      have f163 : Exa Z T151.heap a139 "com/example/slot3/slot3/frame/Post" := (f153.keep K151)
      have f164 : Fld Z T151.heap a142 "com/example/slot3/slot3/frame/Post" "following" "Lcom/example/slot3/slot3/frame/Post;" (.null) := ((F142_following.ext E146).keep K151 (ninS (Nat.ne_of_gt lt_a136_a142) (ninS (Nat.ne_of_gt lt_a139_a142) nin0)))
      have f165 : Fld Z T151.heap a142 "com/example/slot3/slot3/frame/Post" "previous" "Lcom/example/slot3/slot3/frame/Post;" (.null) := ((F142_previous.ext E146).keep K151 (ninS (Nat.ne_of_gt lt_a136_a142) (ninS (Nat.ne_of_gt lt_a139_a142) nin0)))
      have f166 : Fld Z T151.heap a142 "com/example/slot3/slot3/frame/Post" "chain" "Lcom/example/slot3/slot3/frame/PostChain;" (.null) := ((F142_chain.ext E146).keep K151 (ninS (Nat.ne_of_gt lt_a136_a142) (ninS (Nat.ne_of_gt lt_a139_a142) nin0)))
      have z167 : n0 ≤ T151.heap.size := (Nat.le_trans z150 K151.1)
      refine own_callV X151 hx hZ hown (ow_17 hw) (ow_18 hw) (ow_20 hw) (ow_19 hw) (ow_3 hw) (ow_21 hw) (by decide) f161 (rm_ap2 l Z a0 hw a136 a142 a139 ((0 : Int32) + (1 : Int32)) (.ref a139) .null .null .null .null .null (.ref a136) T151.heap n0 z167 f161 f162 p151_0 p151_1 p151_2 f163 f164 f165 f166 p151_3 p151_4 p151_5 ge_a136 ge_a142 ge_a139 (Nat.ne_of_lt lt_a136_a142) (Nat.ne_of_lt lt_a136_a139) (Nat.ne_of_gt lt_a139_a142)) rfl (W := 0) (by decide) (by decide) opd__Lcom_example_slot3_slot3_frame_Post__V rfl (rest := []) rfl (hb hby at_68) (Nat.le_of_eq rfl) (by rw [hml]; rfl) (by decide) (by decide) (pc' := 71) rfl ?_
      intro v160 T160 L160 X160 q160
      obtain ⟨rfl, Nq160, K160, p160_0, p160_1, p160_2, p160_3, p160_4, p160_5, p160_6, p160_7, p160_8⟩ := q160
      have N160 := Fr.app N151 Nq160
      show own_G p e below s _ _ _ (T160.setTop (mkF m 71 #[.val (.int u0), .val (.int u1), .val (.int (3 : Int32)), .val (.int (0 : Int32)), .val (.ref a136), .val (.ref a139), .val (.ref a142), .val (.ref a146), .unset, .unset, .unset, .unset, .unset, .unset] []))
      refine own_iloadN X160 hx (hb hby at_71) rfl (pc' := 72) rfl ?_
      refine own_iconst X160 hx (hb hby at_72) (z := (3 : Int32)) rfl (pc' := 73) rfl ?_
      refine own_icmpF X160 hx (hb hby at_73) (by decide) (pc' := 76) rfl ?_
      refine own_aload X160 hx (hb hby at_76) rfl rfl (pc' := 78) rfl ?_
      refine own_aload X160 hx (hb hby at_78) rfl rfl (pc' := 80) rfl ?_
      have f169 : Exa Z T160.heap a136 "com/example/slot3/slot3/frame/PostChain" := (f161.keep K160)
      have f170 : Exa Z T160.heap a146 "com/example/slot3/slot3/frame/Post" := ((A146.keep K151).keep K160)
      have f171 : Exa Z T160.heap a142 "com/example/slot3/slot3/frame/Post" := (f162.keep K160)
      have f172 : Fld Z T160.heap a146 "com/example/slot3/slot3/frame/Post" "following" "Lcom/example/slot3/slot3/frame/Post;" (.null) := ((F146_following.keep K151 (ninS (Nat.ne_of_gt lt_a136_a146) (ninS (Nat.ne_of_gt lt_a139_a146) nin0))).keep K160 (ninS (Nat.ne_of_gt lt_a136_a146) (ninS (Nat.ne_of_gt lt_a142_a146) (ninS (Nat.ne_of_gt lt_a139_a146) nin0))))
      have f173 : Fld Z T160.heap a146 "com/example/slot3/slot3/frame/Post" "previous" "Lcom/example/slot3/slot3/frame/Post;" (.null) := ((F146_previous.keep K151 (ninS (Nat.ne_of_gt lt_a136_a146) (ninS (Nat.ne_of_gt lt_a139_a146) nin0))).keep K160 (ninS (Nat.ne_of_gt lt_a136_a146) (ninS (Nat.ne_of_gt lt_a142_a146) (ninS (Nat.ne_of_gt lt_a139_a146) nin0))))
      have f174 : Fld Z T160.heap a146 "com/example/slot3/slot3/frame/Post" "chain" "Lcom/example/slot3/slot3/frame/PostChain;" (.null) := ((F146_chain.keep K151 (ninS (Nat.ne_of_gt lt_a136_a146) (ninS (Nat.ne_of_gt lt_a139_a146) nin0))).keep K160 (ninS (Nat.ne_of_gt lt_a136_a146) (ninS (Nat.ne_of_gt lt_a142_a146) (ninS (Nat.ne_of_gt lt_a139_a146) nin0))))
      have z175 : n0 ≤ T160.heap.size := (Nat.le_trans z167 K160.1)
      refine own_callV X160 hx hZ hown (ow_17 hw) (ow_18 hw) (ow_20 hw) (ow_19 hw) (ow_3 hw) (ow_21 hw) (by decide) f169 (rm_ap2 l Z a0 hw a136 a146 a142 (((0 : Int32) + (1 : Int32)) + (1 : Int32)) (.ref a139) .null .null .null .null (.ref a139) (.ref a136) T160.heap n0 z175 f169 f170 p160_0 p160_1 p160_2 f171 f172 f173 f174 p160_3 p160_4 p160_5 ge_a136 ge_a146 ge_a142 (Nat.ne_of_lt lt_a136_a146) (Nat.ne_of_lt lt_a136_a142) (Nat.ne_of_gt lt_a142_a146)) rfl (W := 0) (by decide) (by decide) opd__Lcom_example_slot3_slot3_frame_Post__V rfl (rest := []) rfl (hb hby at_80) (Nat.le_of_eq rfl) (by rw [hml]; rfl) (by decide) (by decide) (pc' := 83) rfl ?_
      intro v168 T168 L168 X168 q168
      obtain ⟨rfl, Nq168, K168, p168_0, p168_1, p168_2, p168_3, p168_4, p168_5, p168_6, p168_7, p168_8⟩ := q168
      have N168 := Fr.app N160 Nq168
      show own_G p e below s _ _ _ (T168.setTop (mkF m 83 #[.val (.int u0), .val (.int u1), .val (.int (3 : Int32)), .val (.int (0 : Int32)), .val (.ref a136), .val (.ref a139), .val (.ref a142), .val (.ref a146), .unset, .unset, .unset, .unset, .unset, .unset] []))
      refine own_iloadN X168 hx (hb hby at_83) rfl (pc' := 84) rfl ?_
      refine own_ifF X168 hx (hb hby at_84) (by decide) (pc' := 87) rfl ?_
      refine own_aload X168 hx (hb hby at_87) rfl rfl (pc' := 89) rfl ?_
      refine own_goto X168 hx (hb hby at_89) (by decide) (pc' := 104) rfl ?_
      refine own_astore X168 hx (hb hby at_104) rfl (l' := #[.val (.int u0), .val (.int u1), .val (.int (3 : Int32)), .val (.int (0 : Int32)), .val (.ref a136), .val (.ref a139), .val (.ref a142), .val (.ref a146), .val (.ref a139), .unset, .unset, .unset, .unset, .unset]) rfl (pc' := 106) rfl ?_
      refine own_aload X168 hx (hb hby at_106) rfl rfl (pc' := 108) rfl ?_
      refine own_aload X168 hx (hb hby at_108) rfl rfl (pc' := 110) rfl ?_
      have f177 : Exa Z T168.heap a136 "com/example/slot3/slot3/frame/PostChain" := (f169.keep K168)
      have f178 : Exa Z T168.heap a139 "com/example/slot3/slot3/frame/Post" := ((f163.keep K160).keep K168)
      have f179 : Fld Z T168.heap a139 "com/example/slot3/slot3/frame/Post" "following" "Lcom/example/slot3/slot3/frame/Post;" (.ref a142) := (p160_6.keep K168 (ninS (Nat.ne_of_gt lt_a136_a139) (ninS (Nat.ne_of_lt lt_a139_a146) (ninS (Nat.ne_of_lt lt_a139_a142) nin0))))
      have f180 : Fld Z T168.heap a139 "com/example/slot3/slot3/frame/Post" "previous" "Lcom/example/slot3/slot3/frame/Post;" (.null) := (p160_7.keep K168 (ninS (Nat.ne_of_gt lt_a136_a139) (ninS (Nat.ne_of_lt lt_a139_a146) (ninS (Nat.ne_of_lt lt_a139_a142) nin0))))
      have f181 : Fld Z T168.heap a139 "com/example/slot3/slot3/frame/Post" "chain" "Lcom/example/slot3/slot3/frame/PostChain;" (.ref a136) := (p160_8.keep K168 (ninS (Nat.ne_of_gt lt_a136_a139) (ninS (Nat.ne_of_lt lt_a139_a146) (ninS (Nat.ne_of_lt lt_a139_a142) nin0))))
      have f182 : Exa Z T168.heap a142 "com/example/slot3/slot3/frame/Post" := (f171.keep K168)
      have z183 : n0 ≤ T168.heap.size := (Nat.le_trans z175 K168.1)
      refine own_callV X168 hx hZ hown (ow_32 hw) (ow_33 hw) (ow_35 hw) (ow_34 hw) (ow_3 hw) (ow_36 hw) (by decide) f177 (rm_ulnr l Z a0 hw a136 a139 a142 ((((0 : Int32) + (1 : Int32)) + (1 : Int32)) + (1 : Int32)) (.ref a139) (.ref a146) (.ref a136) (.ref a146) (.ref a139) (.ref a136) T168.heap n0 z183 f177 f178 p168_0 p168_1 p168_2 f179 f180 f181 f182 p168_6 p168_7 p168_8 ge_a136 ge_a139 ge_a142 (Nat.ne_of_lt lt_a136_a139) (Nat.ne_of_lt lt_a136_a142) (Nat.ne_of_lt lt_a139_a142)) rfl (W := 0) (by decide) (by decide) opd__Lcom_example_slot3_slot3_frame_Post__V rfl (rest := []) rfl (hb hby at_110) (Nat.le_of_eq rfl) (by rw [hml]; rfl) (by decide) (by decide) (pc' := 113) rfl ?_
      intro v176 T176 L176 X176 q176
      obtain ⟨rfl, Nq176, K176, p176_0, p176_1, p176_2, p176_3, p176_4, p176_5, p176_6, p176_7, p176_8⟩ := q176
      have N176 := Fr.app N168 Nq176
      show own_G p e below s _ _ _ (T176.setTop (mkF m 113 #[.val (.int u0), .val (.int u1), .val (.int (3 : Int32)), .val (.int (0 : Int32)), .val (.ref a136), .val (.ref a139), .val (.ref a142), .val (.ref a146), .val (.ref a139), .unset, .unset, .unset, .unset, .unset] []))
      refine own_iloadN X176 hx (hb hby at_113) rfl (pc' := 114) rfl ?_
      refine own_iconst X176 hx (hb hby at_114) (z := (1 : Int32)) rfl (pc' := 115) rfl ?_
      refine own_isub X176 hx (hb hby at_115) (pc' := 116) rfl ?_
      refine own_istore X176 hx (hb hby at_116) (l' := #[.val (.int u0), .val (.int u1), .val (.int (3 : Int32)), .val (.int (0 : Int32)), .val (.ref a136), .val (.ref a139), .val (.ref a142), .val (.ref a146), .val (.ref a139), .val (.int ((3 : Int32) - (1 : Int32))), .unset, .unset, .unset, .unset]) rfl (pc' := 118) rfl ?_
      refine own_iload X176 hx (hb hby at_118) rfl (pc' := 120) rfl ?_
      refine own_iconst X176 hx (hb hby at_120) (z := (1 : Int32)) rfl (pc' := 121) rfl ?_
      refine own_icmpF X176 hx (hb hby at_121) (by decide) (pc' := 124) rfl ?_
      refine own_iloadN X176 hx (hb hby at_124) rfl (pc' := 125) rfl ?_
      refine own_ifF X176 hx (hb hby at_125) (by decide) (pc' := 128) rfl ?_
      refine own_aload X176 hx (hb hby at_128) rfl rfl (pc' := 130) rfl ?_
      refine own_goto X176 hx (hb hby at_130) (by decide) (pc' := 139) rfl ?_
      refine own_astore X176 hx (hb hby at_139) rfl (l' := #[.val (.int u0), .val (.int u1), .val (.int (3 : Int32)), .val (.int (0 : Int32)), .val (.ref a136), .val (.ref a139), .val (.ref a142), .val (.ref a146), .val (.ref a139), .val (.int ((3 : Int32) - (1 : Int32))), .val (.ref a142), .unset, .unset, .unset]) rfl (pc' := 141) rfl ?_
      refine own_iload X176 hx (hb hby at_141) rfl (pc' := 143) rfl ?_
      refine own_iconst X176 hx (hb hby at_143) (z := (2 : Int32)) rfl (pc' := 144) rfl ?_
      refine own_icmpF X176 hx (hb hby at_144) (by decide) (pc' := 147) rfl ?_
      refine own_iloadN X176 hx (hb hby at_147) rfl (pc' := 148) rfl ?_
      refine own_iconst X176 hx (hb hby at_148) (z := (2 : Int32)) rfl (pc' := 149) rfl ?_
      refine own_icmpT X176 hx (hb hby at_149) (by decide) (by decide) (pc' := 157) rfl ?_
      refine own_aload X176 hx (hb hby at_157) rfl rfl (pc' := 159) rfl ?_
      refine own_goto X176 hx (hb hby at_159) (by decide) (pc' := 163) rfl ?_
      refine own_astore X176 hx (hb hby at_163) rfl (l' := #[.val (.int u0), .val (.int u1), .val (.int (3 : Int32)), .val (.int (0 : Int32)), .val (.ref a136), .val (.ref a139), .val (.ref a142), .val (.ref a146), .val (.ref a139), .val (.int ((3 : Int32) - (1 : Int32))), .val (.ref a142), .val (.ref a146), .unset, .unset]) rfl (pc' := 165) rfl ?_
      refine own_iload X176 hx (hb hby at_165) rfl (pc' := 167) rfl ?_
      refine own_ifT X176 hx (hb hby at_167) (by decide) (by decide) (pc' := 174) rfl ?_
      refine own_iload X176 hx (hb hby at_174) rfl (pc' := 176) rfl ?_
      refine own_iconst X176 hx (hb hby at_176) (z := (1 : Int32)) rfl (pc' := 177) rfl ?_
      refine own_icmpT X176 hx (hb hby at_177) (by decide) (by decide) (pc' := 185) rfl ?_
      refine own_aload X176 hx (hb hby at_185) rfl rfl (pc' := 187) rfl ?_
      refine own_astore X176 hx (hb hby at_187) rfl (l' := #[.val (.int u0), .val (.int u1), .val (.int (3 : Int32)), .val (.int (0 : Int32)), .val (.ref a136), .val (.ref a139), .val (.ref a142), .val (.ref a146), .val (.ref a139), .val (.int ((3 : Int32) - (1 : Int32))), .val (.ref a142), .val (.ref a146), .val (.ref a146), .unset]) rfl (pc' := 189) rfl ?_
      refine own_aload X176 hx (hb hby at_189) rfl rfl (pc' := 191) rfl ?_
      refine own_getF X176 hx hZ hown (ow_39 hw) rfl p176_0 (hb hby at_191) (pc' := 194) rfl ?_
      intro T184 X184 e184
      refine own_aload X184 hx (hb hby at_194) rfl rfl (pc' := 196) rfl ?_
      refine own_acmpF X184 hx (hb hby at_196) rfl rfl (by simp [XT.acmp]) (pc' := 199) rfl ?_
      refine own_aload X184 hx (hb hby at_199) rfl rfl (pc' := 201) rfl ?_
      refine own_getF X184 hx hZ hown (ow_40 hw) e184 p176_1 (hb hby at_201) (pc' := 204) rfl ?_
      intro T185 X185 e185
      refine own_aload X185 hx (hb hby at_204) rfl rfl (pc' := 206) rfl ?_
      refine own_acmpF X185 hx (hb hby at_206) rfl rfl (by simp [XT.acmp]) (pc' := 209) rfl ?_
      refine own_aload X185 hx (hb hby at_209) rfl rfl (pc' := 211) rfl ?_
      refine own_getF X185 hx hZ hown (ow_41 hw) e185 p176_2 (hb hby at_211) (pc' := 214) rfl ?_
      intro T186 X186 e186
      refine own_iload X186 hx (hb hby at_214) rfl (pc' := 216) rfl ?_
      refine own_icmpF X186 hx (hb hby at_216) (by decide) (pc' := 219) rfl ?_
      refine own_iconst X186 hx (hb hby at_219) (z := (1 : Int32)) rfl (pc' := 220) rfl ?_
      refine own_goto X186 hx (hb hby at_220) (by decide) (pc' := 224) rfl ?_
      refine own_istore X186 hx (hb hby at_224) (l' := #[.val (.int u0), .val (.int u1), .val (.int (3 : Int32)), .val (.int (0 : Int32)), .val (.ref a136), .val (.ref a139), .val (.ref a142), .val (.ref a146), .val (.ref a139), .val (.int ((3 : Int32) - (1 : Int32))), .val (.ref a142), .val (.ref a146), .val (.ref a146), .val (.int (1 : Int32))]) rfl (pc' := 226) rfl ?_
      refine own_iload X186 hx (hb hby at_226) rfl (pc' := 228) rfl ?_
      refine own_ifF X186 hx (hb hby at_228) (by decide) (pc' := 231) rfl ?_
      refine own_aload X186 hx (hb hby at_231) rfl rfl (pc' := 233) rfl ?_
      refine own_getF X186 hx hZ hown (ow_42 hw) e186 p176_3 (hb hby at_233) (pc' := 236) rfl ?_
      intro T187 X187 e187
      refine own_ifnonnullF X187 hx (hb hby at_236) (pc' := 239) rfl ?_
      refine own_aload X187 hx (hb hby at_239) rfl rfl (pc' := 241) rfl ?_
      refine own_getF X187 hx hZ hown (ow_43 hw) e187 p176_4 (hb hby at_241) (pc' := 244) rfl ?_
      intro T188 X188 e188
      refine own_ifnonnullF X188 hx (hb hby at_244) (pc' := 247) rfl ?_
      refine own_aload X188 hx (hb hby at_247) rfl rfl (pc' := 249) rfl ?_
      refine own_getF X188 hx hZ hown (ow_44 hw) e188 p176_5 (hb hby at_249) (pc' := 252) rfl ?_
      intro T189 X189 e189
      refine own_ifnonnullF X189 hx (hb hby at_252) (pc' := 255) rfl ?_
      refine own_iconst X189 hx (hb hby at_255) (z := (1 : Int32)) rfl (pc' := 256) rfl ?_
      refine own_goto X189 hx (hb hby at_256) (by decide) (pc' := 260) rfl ?_
      refine own_istore X189 hx (hb hby at_260) (l' := #[.val (.int u0), .val (.int u1), .val (.int (3 : Int32)), .val (.int (0 : Int32)), .val (.ref a136), .val (.ref a139), .val (.ref a142), .val (.ref a146), .val (.ref a139), .val (.int ((3 : Int32) - (1 : Int32))), .val (.ref a142), .val (.ref a146), .val (.ref a146), .val (.int (1 : Int32))]) rfl (pc' := 262) rfl ?_
      refine own_aload X189 hx (hb hby at_262) rfl rfl (pc' := 264) rfl ?_
      refine own_ifnullF X189 hx (hb hby at_264) (pc' := 267) rfl ?_
      refine own_iload X189 hx (hb hby at_267) rfl (pc' := 269) rfl ?_
      refine own_ifF X189 hx (hb hby at_269) (by decide) (pc' := 272) rfl ?_
      refine own_aload X189 hx (hb hby at_272) rfl rfl (pc' := 274) rfl ?_
      refine own_getF X189 hx hZ hown (ow_43 hw) e189 p176_7 (hb hby at_274) (pc' := 277) rfl ?_
      intro T190 X190 e190
      refine own_ifnonnullF X190 hx (hb hby at_277) (pc' := 280) rfl ?_
      refine own_aload X190 hx (hb hby at_280) rfl rfl (pc' := 282) rfl ?_
      refine own_getF X190 hx hZ hown (ow_42 hw) e190 p176_6 (hb hby at_282) (pc' := 285) rfl ?_
      intro T191 X191 e191
      refine own_aload X191 hx (hb hby at_285) rfl rfl (pc' := 287) rfl ?_
      refine own_acmpF X191 hx (hb hby at_287) rfl rfl (by simp [XT.acmp]) (pc' := 290) rfl ?_
      refine own_aload X191 hx (hb hby at_290) rfl rfl (pc' := 292) rfl ?_
      refine own_getF X191 hx hZ hown (ow_44 hw) e191 p176_8 (hb hby at_292) (pc' := 295) rfl ?_
      intro T192 X192 e192
      refine own_aload X192 hx (hb hby at_295) rfl rfl (pc' := 297) rfl ?_
      refine own_acmpF X192 hx (hb hby at_297) rfl rfl (by simp [XT.acmp]) (pc' := 300) rfl ?_
      refine own_iconst X192 hx (hb hby at_300) (z := (1 : Int32)) rfl (pc' := 301) rfl ?_
      refine own_goto X192 hx (hb hby at_301) (by decide) (pc' := 305) rfl ?_
      refine own_istore X192 hx (hb hby at_305) (l' := #[.val (.int u0), .val (.int u1), .val (.int (3 : Int32)), .val (.int (0 : Int32)), .val (.ref a136), .val (.ref a139), .val (.ref a142), .val (.ref a146), .val (.ref a139), .val (.int ((3 : Int32) - (1 : Int32))), .val (.ref a142), .val (.ref a146), .val (.ref a146), .val (.int (1 : Int32))]) rfl (pc' := 307) rfl ?_
      refine own_aload X192 hx (hb hby at_307) rfl rfl (pc' := 309) rfl ?_
      refine own_ifnullF X192 hx (hb hby at_309) (pc' := 312) rfl ?_
      refine own_iload X192 hx (hb hby at_312) rfl (pc' := 314) rfl ?_
      refine own_ifF X192 hx (hb hby at_314) (by decide) (pc' := 317) rfl ?_
      refine own_aload X192 hx (hb hby at_317) rfl rfl (pc' := 319) rfl ?_
      have f193 : Fld Z T176.heap a146 "com/example/slot3/slot3/frame/Post" "previous" "Lcom/example/slot3/slot3/frame/Post;" (.ref a142) := (p168_4.keep K176 (ninS (Nat.ne_of_gt lt_a136_a146) (ninS (Nat.ne_of_gt lt_a139_a146) (ninS (Nat.ne_of_gt lt_a142_a146) nin0))))
      refine own_getF X192 hx hZ hown (ow_43 hw) e192 f193 (hb hby at_319) (pc' := 322) rfl ?_
      intro T194 X194 e194
      refine own_aload X194 hx (hb hby at_322) rfl rfl (pc' := 324) rfl ?_
      refine own_acmpF X194 hx (hb hby at_324) rfl rfl (by simp [XT.acmp]) (pc' := 327) rfl ?_
      refine own_aload X194 hx (hb hby at_327) rfl rfl (pc' := 329) rfl ?_
      have f195 : Fld Z T176.heap a146 "com/example/slot3/slot3/frame/Post" "following" "Lcom/example/slot3/slot3/frame/Post;" (.null) := (p168_3.keep K176 (ninS (Nat.ne_of_gt lt_a136_a146) (ninS (Nat.ne_of_gt lt_a139_a146) (ninS (Nat.ne_of_gt lt_a142_a146) nin0))))
      refine own_getF X194 hx hZ hown (ow_42 hw) e194 f195 (hb hby at_329) (pc' := 332) rfl ?_
      intro T196 X196 e196
      refine own_ifnonnullF X196 hx (hb hby at_332) (pc' := 335) rfl ?_
      refine own_aload X196 hx (hb hby at_335) rfl rfl (pc' := 337) rfl ?_
      have f197 : Fld Z T176.heap a146 "com/example/slot3/slot3/frame/Post" "chain" "Lcom/example/slot3/slot3/frame/PostChain;" (.ref a136) := (p168_5.keep K176 (ninS (Nat.ne_of_gt lt_a136_a146) (ninS (Nat.ne_of_gt lt_a139_a146) (ninS (Nat.ne_of_gt lt_a142_a146) nin0))))
      refine own_getF X196 hx hZ hown (ow_44 hw) e196 f197 (hb hby at_337) (pc' := 340) rfl ?_
      intro T198 X198 e198
      refine own_aload X198 hx (hb hby at_340) rfl rfl (pc' := 342) rfl ?_
      refine own_acmpF X198 hx (hb hby at_342) rfl rfl (by simp [XT.acmp]) (pc' := 345) rfl ?_
      refine own_iconst X198 hx (hb hby at_345) (z := (1 : Int32)) rfl (pc' := 346) rfl ?_
      refine own_goto X198 hx (hb hby at_346) (by decide) (pc' := 350) rfl ?_
      refine own_istore X198 hx (hb hby at_350) (l' := #[.val (.int u0), .val (.int u1), .val (.int (3 : Int32)), .val (.int (0 : Int32)), .val (.ref a136), .val (.ref a139), .val (.ref a142), .val (.ref a146), .val (.ref a139), .val (.int ((3 : Int32) - (1 : Int32))), .val (.ref a142), .val (.ref a146), .val (.ref a146), .val (.int (1 : Int32))]) rfl (pc' := 352) rfl ?_
      refine own_iload X198 hx (hb hby at_352) rfl (pc' := 354) rfl ?_
      exact own_retZ X198 hx hret hlk (Or.inr rfl) (hb hby at_354) ⟨rfl, N176⟩ (by decide) (by decide)
    · rw [c134]
      refine own_new X0 hx hZ hown (ow_1 hw) (ow_2 hw) (ow_3 hw) e0 (hb hby at_16) (pc' := 19) rfl (by decide) (by decide) ?_
      intro T199 h199 a199 g199 X199 e199 E199 A199 D199
      have ge_a199 : n0 ≤ a199 := by rw [g199]; exact Z0
      have F199_last : Fld Z h199 a199 "com/example/slot3/slot3/frame/PostChain" "last" "Lcom/example/slot3/slot3/frame/Post;" (.null) := D199 (Or.inl (ow_23 hw)) (ty := (.object "com/example/slot3/slot3/frame/Post")) (by decide)
      have F199_first : Fld Z h199 a199 "com/example/slot3/slot3/frame/PostChain" "first" "Lcom/example/slot3/slot3/frame/Post;" (.null) := D199 (Or.inl (ow_25 hw)) (ty := (.object "com/example/slot3/slot3/frame/Post")) (by decide)
      have F199_count : Fld Z h199 a199 "com/example/slot3/slot3/frame/PostChain" "count" "I" (.int (0 : Int32)) := D199 (Or.inl (ow_31 hw)) (ty := .int) (by decide)
      refine own_dup X199 hx (hb hby at_19) rfl (pc' := 20) rfl ?_
      have z201 : n0 ≤ h199.size := (Nat.le_trans Z0 E199.1)
      refine own_callC X199 hx hZ rfl hown (ow_4 hw) (ow_5 hw) (ow_3 hw) (ow_6 hw) (by decide) (rm_pci l Z a0 hw a199 h199 n0 z201) e199 (W := 1) (by decide) (by decide) opd___V rfl (rest := [(.ref a199)]) rfl (hb hby at_20) (Nat.le_of_eq rfl) (by rw [hml]; rfl) (by decide) (by decide) (pc' := 23) rfl ?_
      intro v200 T200 L200 X200 q200
      obtain ⟨rfl, Nq200, eh200⟩ := q200
      have N200 := Fr.app N0 Nq200
      show own_G p e below s _ _ _ (T200.setTop (mkF m 23 #[.val (.int u0), .val (.int u1), .val (.int (3 : Int32)), .val (.int (1 : Int32)), .unset, .unset, .unset, .unset, .unset, .unset, .unset, .unset, .unset, .unset] [(.ref a199)]))
      refine own_astore X200 hx (hb hby at_23) rfl (l' := #[.val (.int u0), .val (.int u1), .val (.int (3 : Int32)), .val (.int (1 : Int32)), .val (.ref a199), .unset, .unset, .unset, .unset, .unset, .unset, .unset, .unset, .unset]) rfl (pc' := 25) rfl ?_
      refine own_new X200 hx hZ hown (ow_10 hw) (ow_11 hw) (ow_12 hw) eh200 (hb hby at_25) (pc' := 28) rfl (by decide) (by decide) ?_
      intro T202 h202 a202 g202 X202 e202 E202 A202 D202
      have lt_a199_a202 : a199 < a202 := by rw [g202]; exact A199.lt
      have ge_a202 : n0 ≤ a202 := by rw [g202]; exact z201
      have F202_previous : Fld Z h202 a202 "com/example/slot3/slot3/frame/Post" "previous" "Lcom/example/slot3/slot3/frame/Post;" (.null) := D202 (Or.inl (ow_27 hw)) (ty := (.object "com/example/slot3/slot3/frame/Post")) (by decide)
      have F202_chain : Fld Z h202 a202 "com/example/slot3/slot3/frame/Post" "chain" "Lcom/example/slot3/slot3/frame/PostChain;" (.null) := D202 (Or.inl (ow_29 hw)) (ty := (.object "com/example/slot3/slot3/frame/PostChain")) (by decide)
      have F202_following : Fld Z h202 a202 "com/example/slot3/slot3/frame/Post" "following" "Lcom/example/slot3/slot3/frame/Post;" (.null) := D202 (Or.inl (ow_38 hw)) (ty := (.object "com/example/slot3/slot3/frame/Post")) (by decide)
      refine own_dup X202 hx (hb hby at_28) rfl (pc' := 29) rfl ?_
      have z204 : n0 ≤ h202.size := (Nat.le_trans z201 E202.1)
      refine own_callC X202 hx hZ rfl hown (ow_13 hw) (ow_14 hw) (ow_12 hw) (ow_15 hw) (by decide) (rm_poi l Z a0 hw a202 h202 n0 z204) e202 (W := 1) (by decide) (by decide) opd___V rfl (rest := [(.ref a202)]) rfl (hb hby at_29) (Nat.le_of_eq rfl) (by rw [hml]; rfl) (by decide) (by decide) (pc' := 32) rfl ?_
      intro v203 T203 L203 X203 q203
      obtain ⟨rfl, Nq203, eh203⟩ := q203
      have N203 := Fr.app N200 Nq203
      show own_G p e below s _ _ _ (T203.setTop (mkF m 32 #[.val (.int u0), .val (.int u1), .val (.int (3 : Int32)), .val (.int (1 : Int32)), .val (.ref a199), .unset, .unset, .unset, .unset, .unset, .unset, .unset, .unset, .unset] [(.ref a202)]))
      refine own_astore X203 hx (hb hby at_32) rfl (l' := #[.val (.int u0), .val (.int u1), .val (.int (3 : Int32)), .val (.int (1 : Int32)), .val (.ref a199), .val (.ref a202), .unset, .unset, .unset, .unset, .unset, .unset, .unset, .unset]) rfl (pc' := 34) rfl ?_
      have f206 : Exa Z h202 a199 "com/example/slot3/slot3/frame/PostChain" := (A199.ext E202)
      refine own_new X203 hx hZ hown (ow_10 hw) (ow_11 hw) (ow_12 hw) eh203 (hb hby at_34) (pc' := 37) rfl (by decide) (by decide) ?_
      intro T205 h205 a205 g205 X205 e205 E205 A205 D205
      have lt_a199_a205 : a199 < a205 := by rw [g205]; exact f206.lt
      have lt_a202_a205 : a202 < a205 := by rw [g205]; exact A202.lt
      have ge_a205 : n0 ≤ a205 := by rw [g205]; exact z204
      have F205_previous : Fld Z h205 a205 "com/example/slot3/slot3/frame/Post" "previous" "Lcom/example/slot3/slot3/frame/Post;" (.null) := D205 (Or.inl (ow_27 hw)) (ty := (.object "com/example/slot3/slot3/frame/Post")) (by decide)
      have F205_chain : Fld Z h205 a205 "com/example/slot3/slot3/frame/Post" "chain" "Lcom/example/slot3/slot3/frame/PostChain;" (.null) := D205 (Or.inl (ow_29 hw)) (ty := (.object "com/example/slot3/slot3/frame/PostChain")) (by decide)
      have F205_following : Fld Z h205 a205 "com/example/slot3/slot3/frame/Post" "following" "Lcom/example/slot3/slot3/frame/Post;" (.null) := D205 (Or.inl (ow_38 hw)) (ty := (.object "com/example/slot3/slot3/frame/Post")) (by decide)
      refine own_dup X205 hx (hb hby at_37) rfl (pc' := 38) rfl ?_
      have z208 : n0 ≤ h205.size := (Nat.le_trans z204 E205.1)
      refine own_callC X205 hx hZ rfl hown (ow_13 hw) (ow_14 hw) (ow_12 hw) (ow_15 hw) (by decide) (rm_poi l Z a0 hw a205 h205 n0 z208) e205 (W := 1) (by decide) (by decide) opd___V rfl (rest := [(.ref a205)]) rfl (hb hby at_38) (Nat.le_of_eq rfl) (by rw [hml]; rfl) (by decide) (by decide) (pc' := 41) rfl ?_
      intro v207 T207 L207 X207 q207
      obtain ⟨rfl, Nq207, eh207⟩ := q207
      have N207 := Fr.app N203 Nq207
      show own_G p e below s _ _ _ (T207.setTop (mkF m 41 #[.val (.int u0), .val (.int u1), .val (.int (3 : Int32)), .val (.int (1 : Int32)), .val (.ref a199), .val (.ref a202), .unset, .unset, .unset, .unset, .unset, .unset, .unset, .unset] [(.ref a205)]))
      refine own_astore X207 hx (hb hby at_41) rfl (l' := #[.val (.int u0), .val (.int u1), .val (.int (3 : Int32)), .val (.int (1 : Int32)), .val (.ref a199), .val (.ref a202), .val (.ref a205), .unset, .unset, .unset, .unset, .unset, .unset, .unset]) rfl (pc' := 43) rfl ?_
      have f210 : Exa Z h205 a199 "com/example/slot3/slot3/frame/PostChain" := (f206.ext E205)
      have f211 : Exa Z h205 a202 "com/example/slot3/slot3/frame/Post" := (A202.ext E205)
      refine own_new X207 hx hZ hown (ow_10 hw) (ow_11 hw) (ow_12 hw) eh207 (hb hby at_43) (pc' := 46) rfl (by decide) (by decide) ?_
      intro T209 h209 a209 g209 X209 e209 E209 A209 D209
      have lt_a199_a209 : a199 < a209 := by rw [g209]; exact f210.lt
      have lt_a202_a209 : a202 < a209 := by rw [g209]; exact f211.lt
      have lt_a205_a209 : a205 < a209 := by rw [g209]; exact A205.lt
      have ge_a209 : n0 ≤ a209 := by rw [g209]; exact z208
      have F209_previous : Fld Z h209 a209 "com/example/slot3/slot3/frame/Post" "previous" "Lcom/example/slot3/slot3/frame/Post;" (.null) := D209 (Or.inl (ow_27 hw)) (ty := (.object "com/example/slot3/slot3/frame/Post")) (by decide)
      have F209_chain : Fld Z h209 a209 "com/example/slot3/slot3/frame/Post" "chain" "Lcom/example/slot3/slot3/frame/PostChain;" (.null) := D209 (Or.inl (ow_29 hw)) (ty := (.object "com/example/slot3/slot3/frame/PostChain")) (by decide)
      have F209_following : Fld Z h209 a209 "com/example/slot3/slot3/frame/Post" "following" "Lcom/example/slot3/slot3/frame/Post;" (.null) := D209 (Or.inl (ow_38 hw)) (ty := (.object "com/example/slot3/slot3/frame/Post")) (by decide)
      refine own_dup X209 hx (hb hby at_46) rfl (pc' := 47) rfl ?_
      have z213 : n0 ≤ h209.size := (Nat.le_trans z208 E209.1)
      refine own_callC X209 hx hZ rfl hown (ow_13 hw) (ow_14 hw) (ow_12 hw) (ow_15 hw) (by decide) (rm_poi l Z a0 hw a209 h209 n0 z213) e209 (W := 1) (by decide) (by decide) opd___V rfl (rest := [(.ref a209)]) rfl (hb hby at_47) (Nat.le_of_eq rfl) (by rw [hml]; rfl) (by decide) (by decide) (pc' := 50) rfl ?_
      intro v212 T212 L212 X212 q212
      obtain ⟨rfl, Nq212, eh212⟩ := q212
      have N212 := Fr.app N207 Nq212
      show own_G p e below s _ _ _ (T212.setTop (mkF m 50 #[.val (.int u0), .val (.int u1), .val (.int (3 : Int32)), .val (.int (1 : Int32)), .val (.ref a199), .val (.ref a202), .val (.ref a205), .unset, .unset, .unset, .unset, .unset, .unset, .unset] [(.ref a209)]))
      refine own_astore X212 hx (hb hby at_50) rfl (l' := #[.val (.int u0), .val (.int u1), .val (.int (3 : Int32)), .val (.int (1 : Int32)), .val (.ref a199), .val (.ref a202), .val (.ref a205), .val (.ref a209), .unset, .unset, .unset, .unset, .unset, .unset]) rfl (pc' := 52) rfl ?_
      refine own_aload X212 hx (hb hby at_52) rfl rfl (pc' := 54) rfl ?_
      refine own_aload X212 hx (hb hby at_54) rfl rfl (pc' := 56) rfl ?_
      have f215 : Exa Z h209 a199 "com/example/slot3/slot3/frame/PostChain" := (f210.ext E209)
      have f216 : Exa Z h209 a202 "com/example/slot3/slot3/frame/Post" := (f211.ext E209)
      have f217 : Fld Z h209 a199 "com/example/slot3/slot3/frame/PostChain" "first" "Lcom/example/slot3/slot3/frame/Post;" (.null) := (((F199_first.ext E202).ext E205).ext E209)
      have f218 : Fld Z h209 a199 "com/example/slot3/slot3/frame/PostChain" "last" "Lcom/example/slot3/slot3/frame/Post;" (.null) := (((F199_last.ext E202).ext E205).ext E209)
      have f219 : Fld Z h209 a199 "com/example/slot3/slot3/frame/PostChain" "count" "I" (.int (0 : Int32)) := (((F199_count.ext E202).ext E205).ext E209)
      have f220 : Fld Z h209 a202 "com/example/slot3/slot3/frame/Post" "following" "Lcom/example/slot3/slot3/frame/Post;" (.null) := ((F202_following.ext E205).ext E209)
      have f221 : Fld Z h209 a202 "com/example/slot3/slot3/frame/Post" "previous" "Lcom/example/slot3/slot3/frame/Post;" (.null) := ((F202_previous.ext E205).ext E209)
      have f222 : Fld Z h209 a202 "com/example/slot3/slot3/frame/Post" "chain" "Lcom/example/slot3/slot3/frame/PostChain;" (.null) := ((F202_chain.ext E205).ext E209)
      refine own_callV X212 hx hZ hown (ow_17 hw) (ow_18 hw) (ow_20 hw) (ow_19 hw) (ow_3 hw) (ow_21 hw) (by decide) f215 (rm_ap1 l Z a0 hw a199 a202 (0 : Int32) .null .null .null .null h209 n0 z213 f215 f216 f217 f218 f219 f220 f221 f222 ge_a199 ge_a202 (Nat.ne_of_lt lt_a199_a202)) eh212 (W := 0) (by decide) (by decide) opd__Lcom_example_slot3_slot3_frame_Post__V rfl (rest := []) rfl (hb hby at_56) (Nat.le_of_eq rfl) (by rw [hml]; rfl) (by decide) (by decide) (pc' := 59) rfl ?_
      intro v214 T214 L214 X214 q214
      obtain ⟨rfl, Nq214, K214, p214_0, p214_1, p214_2, p214_3, p214_4, p214_5⟩ := q214
      have N214 := Fr.app N212 Nq214
      show own_G p e below s _ _ _ (T214.setTop (mkF m 59 #[.val (.int u0), .val (.int u1), .val (.int (3 : Int32)), .val (.int (1 : Int32)), .val (.ref a199), .val (.ref a202), .val (.ref a205), .val (.ref a209), .unset, .unset, .unset, .unset, .unset, .unset] []))
      refine own_iloadN X214 hx (hb hby at_59) rfl (pc' := 60) rfl ?_
      refine own_iconst X214 hx (hb hby at_60) (z := (2 : Int32)) rfl (pc' := 61) rfl ?_
      refine own_icmpF X214 hx (hb hby at_61) (by decide) (pc' := 64) rfl ?_
      refine own_aload X214 hx (hb hby at_64) rfl rfl (pc' := 66) rfl ?_
      refine own_aload X214 hx (hb hby at_66) rfl rfl (pc' := 68) rfl ?_
      have f224 : Exa Z T214.heap a199 "com/example/slot3/slot3/frame/PostChain" := (f215.keep K214)
      have f225 : Exa Z T214.heap a205 "com/example/slot3/slot3/frame/Post" := ((A205.ext E209).keep K214)
      have f226 : Exa Z T214.heap a202 "com/example/slot3/slot3/frame/Post" := (f216.keep K214)
      have f227 : Fld Z T214.heap a205 "com/example/slot3/slot3/frame/Post" "following" "Lcom/example/slot3/slot3/frame/Post;" (.null) := ((F205_following.ext E209).keep K214 (ninS (Nat.ne_of_gt lt_a199_a205) (ninS (Nat.ne_of_gt lt_a202_a205) nin0)))
      have f228 : Fld Z T214.heap a205 "com/example/slot3/slot3/frame/Post" "previous" "Lcom/example/slot3/slot3/frame/Post;" (.null) := ((F205_previous.ext E209).keep K214 (ninS (Nat.ne_of_gt lt_a199_a205) (ninS (Nat.ne_of_gt lt_a202_a205) nin0)))
      have f229 : Fld Z T214.heap a205 "com/example/slot3/slot3/frame/Post" "chain" "Lcom/example/slot3/slot3/frame/PostChain;" (.null) := ((F205_chain.ext E209).keep K214 (ninS (Nat.ne_of_gt lt_a199_a205) (ninS (Nat.ne_of_gt lt_a202_a205) nin0)))
      have z230 : n0 ≤ T214.heap.size := (Nat.le_trans z213 K214.1)
      refine own_callV X214 hx hZ hown (ow_17 hw) (ow_18 hw) (ow_20 hw) (ow_19 hw) (ow_3 hw) (ow_21 hw) (by decide) f224 (rm_ap2 l Z a0 hw a199 a205 a202 ((0 : Int32) + (1 : Int32)) (.ref a202) .null .null .null .null .null (.ref a199) T214.heap n0 z230 f224 f225 p214_0 p214_1 p214_2 f226 f227 f228 f229 p214_3 p214_4 p214_5 ge_a199 ge_a205 ge_a202 (Nat.ne_of_lt lt_a199_a205) (Nat.ne_of_lt lt_a199_a202) (Nat.ne_of_gt lt_a202_a205)) rfl (W := 0) (by decide) (by decide) opd__Lcom_example_slot3_slot3_frame_Post__V rfl (rest := []) rfl (hb hby at_68) (Nat.le_of_eq rfl) (by rw [hml]; rfl) (by decide) (by decide) (pc' := 71) rfl ?_
      intro v223 T223 L223 X223 q223
      obtain ⟨rfl, Nq223, K223, p223_0, p223_1, p223_2, p223_3, p223_4, p223_5, p223_6, p223_7, p223_8⟩ := q223
      have N223 := Fr.app N214 Nq223
      show own_G p e below s _ _ _ (T223.setTop (mkF m 71 #[.val (.int u0), .val (.int u1), .val (.int (3 : Int32)), .val (.int (1 : Int32)), .val (.ref a199), .val (.ref a202), .val (.ref a205), .val (.ref a209), .unset, .unset, .unset, .unset, .unset, .unset] []))
      refine own_iloadN X223 hx (hb hby at_71) rfl (pc' := 72) rfl ?_
      refine own_iconst X223 hx (hb hby at_72) (z := (3 : Int32)) rfl (pc' := 73) rfl ?_
      refine own_icmpF X223 hx (hb hby at_73) (by decide) (pc' := 76) rfl ?_
      refine own_aload X223 hx (hb hby at_76) rfl rfl (pc' := 78) rfl ?_
      refine own_aload X223 hx (hb hby at_78) rfl rfl (pc' := 80) rfl ?_
      have f232 : Exa Z T223.heap a199 "com/example/slot3/slot3/frame/PostChain" := (f224.keep K223)
      have f233 : Exa Z T223.heap a209 "com/example/slot3/slot3/frame/Post" := ((A209.keep K214).keep K223)
      have f234 : Exa Z T223.heap a205 "com/example/slot3/slot3/frame/Post" := (f225.keep K223)
      have f235 : Fld Z T223.heap a209 "com/example/slot3/slot3/frame/Post" "following" "Lcom/example/slot3/slot3/frame/Post;" (.null) := ((F209_following.keep K214 (ninS (Nat.ne_of_gt lt_a199_a209) (ninS (Nat.ne_of_gt lt_a202_a209) nin0))).keep K223 (ninS (Nat.ne_of_gt lt_a199_a209) (ninS (Nat.ne_of_gt lt_a205_a209) (ninS (Nat.ne_of_gt lt_a202_a209) nin0))))
      have f236 : Fld Z T223.heap a209 "com/example/slot3/slot3/frame/Post" "previous" "Lcom/example/slot3/slot3/frame/Post;" (.null) := ((F209_previous.keep K214 (ninS (Nat.ne_of_gt lt_a199_a209) (ninS (Nat.ne_of_gt lt_a202_a209) nin0))).keep K223 (ninS (Nat.ne_of_gt lt_a199_a209) (ninS (Nat.ne_of_gt lt_a205_a209) (ninS (Nat.ne_of_gt lt_a202_a209) nin0))))
      have f237 : Fld Z T223.heap a209 "com/example/slot3/slot3/frame/Post" "chain" "Lcom/example/slot3/slot3/frame/PostChain;" (.null) := ((F209_chain.keep K214 (ninS (Nat.ne_of_gt lt_a199_a209) (ninS (Nat.ne_of_gt lt_a202_a209) nin0))).keep K223 (ninS (Nat.ne_of_gt lt_a199_a209) (ninS (Nat.ne_of_gt lt_a205_a209) (ninS (Nat.ne_of_gt lt_a202_a209) nin0))))
      have z238 : n0 ≤ T223.heap.size := (Nat.le_trans z230 K223.1)
      refine own_callV X223 hx hZ hown (ow_17 hw) (ow_18 hw) (ow_20 hw) (ow_19 hw) (ow_3 hw) (ow_21 hw) (by decide) f232 (rm_ap2 l Z a0 hw a199 a209 a205 (((0 : Int32) + (1 : Int32)) + (1 : Int32)) (.ref a202) .null .null .null .null (.ref a202) (.ref a199) T223.heap n0 z238 f232 f233 p223_0 p223_1 p223_2 f234 f235 f236 f237 p223_3 p223_4 p223_5 ge_a199 ge_a209 ge_a205 (Nat.ne_of_lt lt_a199_a209) (Nat.ne_of_lt lt_a199_a205) (Nat.ne_of_gt lt_a205_a209)) rfl (W := 0) (by decide) (by decide) opd__Lcom_example_slot3_slot3_frame_Post__V rfl (rest := []) rfl (hb hby at_80) (Nat.le_of_eq rfl) (by rw [hml]; rfl) (by decide) (by decide) (pc' := 83) rfl ?_
      intro v231 T231 L231 X231 q231
      obtain ⟨rfl, Nq231, K231, p231_0, p231_1, p231_2, p231_3, p231_4, p231_5, p231_6, p231_7, p231_8⟩ := q231
      have N231 := Fr.app N223 Nq231
      show own_G p e below s _ _ _ (T231.setTop (mkF m 83 #[.val (.int u0), .val (.int u1), .val (.int (3 : Int32)), .val (.int (1 : Int32)), .val (.ref a199), .val (.ref a202), .val (.ref a205), .val (.ref a209), .unset, .unset, .unset, .unset, .unset, .unset] []))
      refine own_iloadN X231 hx (hb hby at_83) rfl (pc' := 84) rfl ?_
      refine own_ifT X231 hx (hb hby at_84) (by decide) (by decide) (pc' := 92) rfl ?_
      refine own_iloadN X231 hx (hb hby at_92) rfl (pc' := 93) rfl ?_
      refine own_iconst X231 hx (hb hby at_93) (z := (1 : Int32)) rfl (pc' := 94) rfl ?_
      refine own_icmpF X231 hx (hb hby at_94) (by decide) (pc' := 97) rfl ?_
      refine own_aload X231 hx (hb hby at_97) rfl rfl (pc' := 99) rfl ?_
      refine own_goto X231 hx (hb hby at_99) (by decide) (pc' := 104) rfl ?_
      refine own_astore X231 hx (hb hby at_104) rfl (l' := #[.val (.int u0), .val (.int u1), .val (.int (3 : Int32)), .val (.int (1 : Int32)), .val (.ref a199), .val (.ref a202), .val (.ref a205), .val (.ref a209), .val (.ref a205), .unset, .unset, .unset, .unset, .unset]) rfl (pc' := 106) rfl ?_
      refine own_aload X231 hx (hb hby at_106) rfl rfl (pc' := 108) rfl ?_
      refine own_aload X231 hx (hb hby at_108) rfl rfl (pc' := 110) rfl ?_
      have f240 : Exa Z T231.heap a199 "com/example/slot3/slot3/frame/PostChain" := (f232.keep K231)
      have f241 : Exa Z T231.heap a205 "com/example/slot3/slot3/frame/Post" := (f234.keep K231)
      have f242 : Exa Z T231.heap a202 "com/example/slot3/slot3/frame/Post" := ((f226.keep K223).keep K231)
      have f243 : Fld Z T231.heap a202 "com/example/slot3/slot3/frame/Post" "following" "Lcom/example/slot3/slot3/frame/Post;" (.ref a205) := (p223_6.keep K231 (ninS (Nat.ne_of_gt lt_a199_a202) (ninS (Nat.ne_of_lt lt_a202_a209) (ninS (Nat.ne_of_lt lt_a202_a205) nin0))))
      have f244 : Fld Z T231.heap a202 "com/example/slot3/slot3/frame/Post" "previous" "Lcom/example/slot3/slot3/frame/Post;" (.null) := (p223_7.keep K231 (ninS (Nat.ne_of_gt lt_a199_a202) (ninS (Nat.ne_of_lt lt_a202_a209) (ninS (Nat.ne_of_lt lt_a202_a205) nin0))))
      have f245 : Fld Z T231.heap a202 "com/example/slot3/slot3/frame/Post" "chain" "Lcom/example/slot3/slot3/frame/PostChain;" (.ref a199) := (p223_8.keep K231 (ninS (Nat.ne_of_gt lt_a199_a202) (ninS (Nat.ne_of_lt lt_a202_a209) (ninS (Nat.ne_of_lt lt_a202_a205) nin0))))
      have f246 : Exa Z T231.heap a209 "com/example/slot3/slot3/frame/Post" := (f233.keep K231)
      have z247 : n0 ≤ T231.heap.size := (Nat.le_trans z238 K231.1)
      refine own_callV X231 hx hZ hown (ow_32 hw) (ow_33 hw) (ow_35 hw) (ow_34 hw) (ow_3 hw) (ow_36 hw) (by decide) f240 (rm_ulrr l Z a0 hw a199 a205 a202 a209 ((((0 : Int32) + (1 : Int32)) + (1 : Int32)) + (1 : Int32)) (.ref a202) (.ref a209) (.ref a199) (.ref a205) .null (.ref a199) .null (.ref a205) (.ref a199) T231.heap n0 z247 f240 f241 p231_0 p231_1 p231_2 p231_6 p231_7 p231_8 f242 f243 f244 f245 f246 p231_3 p231_4 p231_5 ge_a199 ge_a205 ge_a202 ge_a209 (Nat.ne_of_lt lt_a199_a205) (Nat.ne_of_lt lt_a199_a202) (Nat.ne_of_lt lt_a199_a209) (Nat.ne_of_gt lt_a202_a205) (Nat.ne_of_lt lt_a205_a209) (Nat.ne_of_lt lt_a202_a209)) rfl (W := 0) (by decide) (by decide) opd__Lcom_example_slot3_slot3_frame_Post__V rfl (rest := []) rfl (hb hby at_110) (Nat.le_of_eq rfl) (by rw [hml]; rfl) (by decide) (by decide) (pc' := 113) rfl ?_
      intro v239 T239 L239 X239 q239
      obtain ⟨rfl, Nq239, K239, p239_0, p239_1, p239_2, p239_3, p239_4, p239_5, p239_6, p239_7, p239_8, p239_9, p239_10, p239_11⟩ := q239
      have N239 := Fr.app N231 Nq239
      show own_G p e below s _ _ _ (T239.setTop (mkF m 113 #[.val (.int u0), .val (.int u1), .val (.int (3 : Int32)), .val (.int (1 : Int32)), .val (.ref a199), .val (.ref a202), .val (.ref a205), .val (.ref a209), .val (.ref a205), .unset, .unset, .unset, .unset, .unset] []))
      refine own_iloadN X239 hx (hb hby at_113) rfl (pc' := 114) rfl ?_
      refine own_iconst X239 hx (hb hby at_114) (z := (1 : Int32)) rfl (pc' := 115) rfl ?_
      refine own_isub X239 hx (hb hby at_115) (pc' := 116) rfl ?_
      refine own_istore X239 hx (hb hby at_116) (l' := #[.val (.int u0), .val (.int u1), .val (.int (3 : Int32)), .val (.int (1 : Int32)), .val (.ref a199), .val (.ref a202), .val (.ref a205), .val (.ref a209), .val (.ref a205), .val (.int ((3 : Int32) - (1 : Int32))), .unset, .unset, .unset, .unset]) rfl (pc' := 118) rfl ?_
      refine own_iload X239 hx (hb hby at_118) rfl (pc' := 120) rfl ?_
      refine own_iconst X239 hx (hb hby at_120) (z := (1 : Int32)) rfl (pc' := 121) rfl ?_
      refine own_icmpF X239 hx (hb hby at_121) (by decide) (pc' := 124) rfl ?_
      refine own_iloadN X239 hx (hb hby at_124) rfl (pc' := 125) rfl ?_
      refine own_ifT X239 hx (hb hby at_125) (by decide) (by decide) (pc' := 133) rfl ?_
      refine own_aload X239 hx (hb hby at_133) rfl rfl (pc' := 135) rfl ?_
      refine own_goto X239 hx (hb hby at_135) (by decide) (pc' := 139) rfl ?_
      refine own_astore X239 hx (hb hby at_139) rfl (l' := #[.val (.int u0), .val (.int u1), .val (.int (3 : Int32)), .val (.int (1 : Int32)), .val (.ref a199), .val (.ref a202), .val (.ref a205), .val (.ref a209), .val (.ref a205), .val (.int ((3 : Int32) - (1 : Int32))), .val (.ref a202), .unset, .unset, .unset]) rfl (pc' := 141) rfl ?_
      refine own_iload X239 hx (hb hby at_141) rfl (pc' := 143) rfl ?_
      refine own_iconst X239 hx (hb hby at_143) (z := (2 : Int32)) rfl (pc' := 144) rfl ?_
      refine own_icmpF X239 hx (hb hby at_144) (by decide) (pc' := 147) rfl ?_
      refine own_iloadN X239 hx (hb hby at_147) rfl (pc' := 148) rfl ?_
      refine own_iconst X239 hx (hb hby at_148) (z := (2 : Int32)) rfl (pc' := 149) rfl ?_
      refine own_icmpT X239 hx (hb hby at_149) (by decide) (by decide) (pc' := 157) rfl ?_
      refine own_aload X239 hx (hb hby at_157) rfl rfl (pc' := 159) rfl ?_
      refine own_goto X239 hx (hb hby at_159) (by decide) (pc' := 163) rfl ?_
      refine own_astore X239 hx (hb hby at_163) rfl (l' := #[.val (.int u0), .val (.int u1), .val (.int (3 : Int32)), .val (.int (1 : Int32)), .val (.ref a199), .val (.ref a202), .val (.ref a205), .val (.ref a209), .val (.ref a205), .val (.int ((3 : Int32) - (1 : Int32))), .val (.ref a202), .val (.ref a209), .unset, .unset]) rfl (pc' := 165) rfl ?_
      refine own_iload X239 hx (hb hby at_165) rfl (pc' := 167) rfl ?_
      refine own_ifT X239 hx (hb hby at_167) (by decide) (by decide) (pc' := 174) rfl ?_
      refine own_iload X239 hx (hb hby at_174) rfl (pc' := 176) rfl ?_
      refine own_iconst X239 hx (hb hby at_176) (z := (1 : Int32)) rfl (pc' := 177) rfl ?_
      refine own_icmpT X239 hx (hb hby at_177) (by decide) (by decide) (pc' := 185) rfl ?_
      refine own_aload X239 hx (hb hby at_185) rfl rfl (pc' := 187) rfl ?_
      refine own_astore X239 hx (hb hby at_187) rfl (l' := #[.val (.int u0), .val (.int u1), .val (.int (3 : Int32)), .val (.int (1 : Int32)), .val (.ref a199), .val (.ref a202), .val (.ref a205), .val (.ref a209), .val (.ref a205), .val (.int ((3 : Int32) - (1 : Int32))), .val (.ref a202), .val (.ref a209), .val (.ref a209), .unset]) rfl (pc' := 189) rfl ?_
      refine own_aload X239 hx (hb hby at_189) rfl rfl (pc' := 191) rfl ?_
      refine own_getF X239 hx hZ hown (ow_39 hw) rfl p239_0 (hb hby at_191) (pc' := 194) rfl ?_
      intro T248 X248 e248
      refine own_aload X248 hx (hb hby at_194) rfl rfl (pc' := 196) rfl ?_
      refine own_acmpF X248 hx (hb hby at_196) rfl rfl (by simp [XT.acmp]) (pc' := 199) rfl ?_
      refine own_aload X248 hx (hb hby at_199) rfl rfl (pc' := 201) rfl ?_
      refine own_getF X248 hx hZ hown (ow_40 hw) e248 p239_1 (hb hby at_201) (pc' := 204) rfl ?_
      intro T249 X249 e249
      refine own_aload X249 hx (hb hby at_204) rfl rfl (pc' := 206) rfl ?_
      refine own_acmpF X249 hx (hb hby at_206) rfl rfl (by simp [XT.acmp]) (pc' := 209) rfl ?_
      refine own_aload X249 hx (hb hby at_209) rfl rfl (pc' := 211) rfl ?_
      refine own_getF X249 hx hZ hown (ow_41 hw) e249 p239_2 (hb hby at_211) (pc' := 214) rfl ?_
      intro T250 X250 e250
      refine own_iload X250 hx (hb hby at_214) rfl (pc' := 216) rfl ?_
      refine own_icmpF X250 hx (hb hby at_216) (by decide) (pc' := 219) rfl ?_
      refine own_iconst X250 hx (hb hby at_219) (z := (1 : Int32)) rfl (pc' := 220) rfl ?_
      refine own_goto X250 hx (hb hby at_220) (by decide) (pc' := 224) rfl ?_
      refine own_istore X250 hx (hb hby at_224) (l' := #[.val (.int u0), .val (.int u1), .val (.int (3 : Int32)), .val (.int (1 : Int32)), .val (.ref a199), .val (.ref a202), .val (.ref a205), .val (.ref a209), .val (.ref a205), .val (.int ((3 : Int32) - (1 : Int32))), .val (.ref a202), .val (.ref a209), .val (.ref a209), .val (.int (1 : Int32))]) rfl (pc' := 226) rfl ?_
      refine own_iload X250 hx (hb hby at_226) rfl (pc' := 228) rfl ?_
      refine own_ifF X250 hx (hb hby at_228) (by decide) (pc' := 231) rfl ?_
      refine own_aload X250 hx (hb hby at_231) rfl rfl (pc' := 233) rfl ?_
      refine own_getF X250 hx hZ hown (ow_42 hw) e250 p239_3 (hb hby at_233) (pc' := 236) rfl ?_
      intro T251 X251 e251
      refine own_ifnonnullF X251 hx (hb hby at_236) (pc' := 239) rfl ?_
      refine own_aload X251 hx (hb hby at_239) rfl rfl (pc' := 241) rfl ?_
      refine own_getF X251 hx hZ hown (ow_43 hw) e251 p239_4 (hb hby at_241) (pc' := 244) rfl ?_
      intro T252 X252 e252
      refine own_ifnonnullF X252 hx (hb hby at_244) (pc' := 247) rfl ?_
      refine own_aload X252 hx (hb hby at_247) rfl rfl (pc' := 249) rfl ?_
      refine own_getF X252 hx hZ hown (ow_44 hw) e252 p239_5 (hb hby at_249) (pc' := 252) rfl ?_
      intro T253 X253 e253
      refine own_ifnonnullF X253 hx (hb hby at_252) (pc' := 255) rfl ?_
      refine own_iconst X253 hx (hb hby at_255) (z := (1 : Int32)) rfl (pc' := 256) rfl ?_
      refine own_goto X253 hx (hb hby at_256) (by decide) (pc' := 260) rfl ?_
      refine own_istore X253 hx (hb hby at_260) (l' := #[.val (.int u0), .val (.int u1), .val (.int (3 : Int32)), .val (.int (1 : Int32)), .val (.ref a199), .val (.ref a202), .val (.ref a205), .val (.ref a209), .val (.ref a205), .val (.int ((3 : Int32) - (1 : Int32))), .val (.ref a202), .val (.ref a209), .val (.ref a209), .val (.int (1 : Int32))]) rfl (pc' := 262) rfl ?_
      refine own_aload X253 hx (hb hby at_262) rfl rfl (pc' := 264) rfl ?_
      refine own_ifnullF X253 hx (hb hby at_264) (pc' := 267) rfl ?_
      refine own_iload X253 hx (hb hby at_267) rfl (pc' := 269) rfl ?_
      refine own_ifF X253 hx (hb hby at_269) (by decide) (pc' := 272) rfl ?_
      refine own_aload X253 hx (hb hby at_272) rfl rfl (pc' := 274) rfl ?_
      refine own_getF X253 hx hZ hown (ow_43 hw) e253 p239_7 (hb hby at_274) (pc' := 277) rfl ?_
      intro T254 X254 e254
      refine own_ifnonnullF X254 hx (hb hby at_277) (pc' := 280) rfl ?_
      refine own_aload X254 hx (hb hby at_280) rfl rfl (pc' := 282) rfl ?_
      refine own_getF X254 hx hZ hown (ow_42 hw) e254 p239_6 (hb hby at_282) (pc' := 285) rfl ?_
      intro T255 X255 e255
      refine own_aload X255 hx (hb hby at_285) rfl rfl (pc' := 287) rfl ?_
      refine own_acmpF X255 hx (hb hby at_287) rfl rfl (by simp [XT.acmp]) (pc' := 290) rfl ?_
      refine own_aload X255 hx (hb hby at_290) rfl rfl (pc' := 292) rfl ?_
      refine own_getF X255 hx hZ hown (ow_44 hw) e255 p239_8 (hb hby at_292) (pc' := 295) rfl ?_
      intro T256 X256 e256
      refine own_aload X256 hx (hb hby at_295) rfl rfl (pc' := 297) rfl ?_
      refine own_acmpF X256 hx (hb hby at_297) rfl rfl (by simp [XT.acmp]) (pc' := 300) rfl ?_
      refine own_iconst X256 hx (hb hby at_300) (z := (1 : Int32)) rfl (pc' := 301) rfl ?_
      refine own_goto X256 hx (hb hby at_301) (by decide) (pc' := 305) rfl ?_
      refine own_istore X256 hx (hb hby at_305) (l' := #[.val (.int u0), .val (.int u1), .val (.int (3 : Int32)), .val (.int (1 : Int32)), .val (.ref a199), .val (.ref a202), .val (.ref a205), .val (.ref a209), .val (.ref a205), .val (.int ((3 : Int32) - (1 : Int32))), .val (.ref a202), .val (.ref a209), .val (.ref a209), .val (.int (1 : Int32))]) rfl (pc' := 307) rfl ?_
      refine own_aload X256 hx (hb hby at_307) rfl rfl (pc' := 309) rfl ?_
      refine own_ifnullF X256 hx (hb hby at_309) (pc' := 312) rfl ?_
      refine own_iload X256 hx (hb hby at_312) rfl (pc' := 314) rfl ?_
      refine own_ifF X256 hx (hb hby at_314) (by decide) (pc' := 317) rfl ?_
      refine own_aload X256 hx (hb hby at_317) rfl rfl (pc' := 319) rfl ?_
      refine own_getF X256 hx hZ hown (ow_43 hw) e256 p239_10 (hb hby at_319) (pc' := 322) rfl ?_
      intro T257 X257 e257
      refine own_aload X257 hx (hb hby at_322) rfl rfl (pc' := 324) rfl ?_
      refine own_acmpF X257 hx (hb hby at_324) rfl rfl (by simp [XT.acmp]) (pc' := 327) rfl ?_
      refine own_aload X257 hx (hb hby at_327) rfl rfl (pc' := 329) rfl ?_
      refine own_getF X257 hx hZ hown (ow_42 hw) e257 p239_9 (hb hby at_329) (pc' := 332) rfl ?_
      intro T258 X258 e258
      refine own_ifnonnullF X258 hx (hb hby at_332) (pc' := 335) rfl ?_
      refine own_aload X258 hx (hb hby at_335) rfl rfl (pc' := 337) rfl ?_
      refine own_getF X258 hx hZ hown (ow_44 hw) e258 p239_11 (hb hby at_337) (pc' := 340) rfl ?_
      intro T259 X259 e259
      refine own_aload X259 hx (hb hby at_340) rfl rfl (pc' := 342) rfl ?_
      refine own_acmpF X259 hx (hb hby at_342) rfl rfl (by simp [XT.acmp]) (pc' := 345) rfl ?_
      refine own_iconst X259 hx (hb hby at_345) (z := (1 : Int32)) rfl (pc' := 346) rfl ?_
      refine own_goto X259 hx (hb hby at_346) (by decide) (pc' := 350) rfl ?_
      refine own_istore X259 hx (hb hby at_350) (l' := #[.val (.int u0), .val (.int u1), .val (.int (3 : Int32)), .val (.int (1 : Int32)), .val (.ref a199), .val (.ref a202), .val (.ref a205), .val (.ref a209), .val (.ref a205), .val (.int ((3 : Int32) - (1 : Int32))), .val (.ref a202), .val (.ref a209), .val (.ref a209), .val (.int (1 : Int32))]) rfl (pc' := 352) rfl ?_
      refine own_iload X259 hx (hb hby at_352) rfl (pc' := 354) rfl ?_
      exact own_retZ X259 hx hret hlk (Or.inr rfl) (hb hby at_354) ⟨rfl, N239⟩ (by decide) (by decide)
    · rw [c135]
      refine own_new X0 hx hZ hown (ow_1 hw) (ow_2 hw) (ow_3 hw) e0 (hb hby at_16) (pc' := 19) rfl (by decide) (by decide) ?_
      intro T260 h260 a260 g260 X260 e260 E260 A260 D260
      have ge_a260 : n0 ≤ a260 := by rw [g260]; exact Z0
      have F260_last : Fld Z h260 a260 "com/example/slot3/slot3/frame/PostChain" "last" "Lcom/example/slot3/slot3/frame/Post;" (.null) := D260 (Or.inl (ow_23 hw)) (ty := (.object "com/example/slot3/slot3/frame/Post")) (by decide)
      have F260_first : Fld Z h260 a260 "com/example/slot3/slot3/frame/PostChain" "first" "Lcom/example/slot3/slot3/frame/Post;" (.null) := D260 (Or.inl (ow_25 hw)) (ty := (.object "com/example/slot3/slot3/frame/Post")) (by decide)
      have F260_count : Fld Z h260 a260 "com/example/slot3/slot3/frame/PostChain" "count" "I" (.int (0 : Int32)) := D260 (Or.inl (ow_31 hw)) (ty := .int) (by decide)
      refine own_dup X260 hx (hb hby at_19) rfl (pc' := 20) rfl ?_
      have z262 : n0 ≤ h260.size := (Nat.le_trans Z0 E260.1)
      refine own_callC X260 hx hZ rfl hown (ow_4 hw) (ow_5 hw) (ow_3 hw) (ow_6 hw) (by decide) (rm_pci l Z a0 hw a260 h260 n0 z262) e260 (W := 1) (by decide) (by decide) opd___V rfl (rest := [(.ref a260)]) rfl (hb hby at_20) (Nat.le_of_eq rfl) (by rw [hml]; rfl) (by decide) (by decide) (pc' := 23) rfl ?_
      intro v261 T261 L261 X261 q261
      obtain ⟨rfl, Nq261, eh261⟩ := q261
      have N261 := Fr.app N0 Nq261
      show own_G p e below s _ _ _ (T261.setTop (mkF m 23 #[.val (.int u0), .val (.int u1), .val (.int (3 : Int32)), .val (.int (2 : Int32)), .unset, .unset, .unset, .unset, .unset, .unset, .unset, .unset, .unset, .unset] [(.ref a260)]))
      refine own_astore X261 hx (hb hby at_23) rfl (l' := #[.val (.int u0), .val (.int u1), .val (.int (3 : Int32)), .val (.int (2 : Int32)), .val (.ref a260), .unset, .unset, .unset, .unset, .unset, .unset, .unset, .unset, .unset]) rfl (pc' := 25) rfl ?_
      refine own_new X261 hx hZ hown (ow_10 hw) (ow_11 hw) (ow_12 hw) eh261 (hb hby at_25) (pc' := 28) rfl (by decide) (by decide) ?_
      intro T263 h263 a263 g263 X263 e263 E263 A263 D263
      have lt_a260_a263 : a260 < a263 := by rw [g263]; exact A260.lt
      have ge_a263 : n0 ≤ a263 := by rw [g263]; exact z262
      have F263_previous : Fld Z h263 a263 "com/example/slot3/slot3/frame/Post" "previous" "Lcom/example/slot3/slot3/frame/Post;" (.null) := D263 (Or.inl (ow_27 hw)) (ty := (.object "com/example/slot3/slot3/frame/Post")) (by decide)
      have F263_chain : Fld Z h263 a263 "com/example/slot3/slot3/frame/Post" "chain" "Lcom/example/slot3/slot3/frame/PostChain;" (.null) := D263 (Or.inl (ow_29 hw)) (ty := (.object "com/example/slot3/slot3/frame/PostChain")) (by decide)
      have F263_following : Fld Z h263 a263 "com/example/slot3/slot3/frame/Post" "following" "Lcom/example/slot3/slot3/frame/Post;" (.null) := D263 (Or.inl (ow_38 hw)) (ty := (.object "com/example/slot3/slot3/frame/Post")) (by decide)
      refine own_dup X263 hx (hb hby at_28) rfl (pc' := 29) rfl ?_
      have z265 : n0 ≤ h263.size := (Nat.le_trans z262 E263.1)
      refine own_callC X263 hx hZ rfl hown (ow_13 hw) (ow_14 hw) (ow_12 hw) (ow_15 hw) (by decide) (rm_poi l Z a0 hw a263 h263 n0 z265) e263 (W := 1) (by decide) (by decide) opd___V rfl (rest := [(.ref a263)]) rfl (hb hby at_29) (Nat.le_of_eq rfl) (by rw [hml]; rfl) (by decide) (by decide) (pc' := 32) rfl ?_
      intro v264 T264 L264 X264 q264
      obtain ⟨rfl, Nq264, eh264⟩ := q264
      have N264 := Fr.app N261 Nq264
      show own_G p e below s _ _ _ (T264.setTop (mkF m 32 #[.val (.int u0), .val (.int u1), .val (.int (3 : Int32)), .val (.int (2 : Int32)), .val (.ref a260), .unset, .unset, .unset, .unset, .unset, .unset, .unset, .unset, .unset] [(.ref a263)]))
      refine own_astore X264 hx (hb hby at_32) rfl (l' := #[.val (.int u0), .val (.int u1), .val (.int (3 : Int32)), .val (.int (2 : Int32)), .val (.ref a260), .val (.ref a263), .unset, .unset, .unset, .unset, .unset, .unset, .unset, .unset]) rfl (pc' := 34) rfl ?_
      have f267 : Exa Z h263 a260 "com/example/slot3/slot3/frame/PostChain" := (A260.ext E263)
      refine own_new X264 hx hZ hown (ow_10 hw) (ow_11 hw) (ow_12 hw) eh264 (hb hby at_34) (pc' := 37) rfl (by decide) (by decide) ?_
      intro T266 h266 a266 g266 X266 e266 E266 A266 D266
      have lt_a260_a266 : a260 < a266 := by rw [g266]; exact f267.lt
      have lt_a263_a266 : a263 < a266 := by rw [g266]; exact A263.lt
      have ge_a266 : n0 ≤ a266 := by rw [g266]; exact z265
      have F266_previous : Fld Z h266 a266 "com/example/slot3/slot3/frame/Post" "previous" "Lcom/example/slot3/slot3/frame/Post;" (.null) := D266 (Or.inl (ow_27 hw)) (ty := (.object "com/example/slot3/slot3/frame/Post")) (by decide)
      have F266_chain : Fld Z h266 a266 "com/example/slot3/slot3/frame/Post" "chain" "Lcom/example/slot3/slot3/frame/PostChain;" (.null) := D266 (Or.inl (ow_29 hw)) (ty := (.object "com/example/slot3/slot3/frame/PostChain")) (by decide)
      have F266_following : Fld Z h266 a266 "com/example/slot3/slot3/frame/Post" "following" "Lcom/example/slot3/slot3/frame/Post;" (.null) := D266 (Or.inl (ow_38 hw)) (ty := (.object "com/example/slot3/slot3/frame/Post")) (by decide)
      refine own_dup X266 hx (hb hby at_37) rfl (pc' := 38) rfl ?_
      have z269 : n0 ≤ h266.size := (Nat.le_trans z265 E266.1)
      refine own_callC X266 hx hZ rfl hown (ow_13 hw) (ow_14 hw) (ow_12 hw) (ow_15 hw) (by decide) (rm_poi l Z a0 hw a266 h266 n0 z269) e266 (W := 1) (by decide) (by decide) opd___V rfl (rest := [(.ref a266)]) rfl (hb hby at_38) (Nat.le_of_eq rfl) (by rw [hml]; rfl) (by decide) (by decide) (pc' := 41) rfl ?_
      intro v268 T268 L268 X268 q268
      obtain ⟨rfl, Nq268, eh268⟩ := q268
      have N268 := Fr.app N264 Nq268
      show own_G p e below s _ _ _ (T268.setTop (mkF m 41 #[.val (.int u0), .val (.int u1), .val (.int (3 : Int32)), .val (.int (2 : Int32)), .val (.ref a260), .val (.ref a263), .unset, .unset, .unset, .unset, .unset, .unset, .unset, .unset] [(.ref a266)]))
      refine own_astore X268 hx (hb hby at_41) rfl (l' := #[.val (.int u0), .val (.int u1), .val (.int (3 : Int32)), .val (.int (2 : Int32)), .val (.ref a260), .val (.ref a263), .val (.ref a266), .unset, .unset, .unset, .unset, .unset, .unset, .unset]) rfl (pc' := 43) rfl ?_
      have f271 : Exa Z h266 a260 "com/example/slot3/slot3/frame/PostChain" := (f267.ext E266)
      have f272 : Exa Z h266 a263 "com/example/slot3/slot3/frame/Post" := (A263.ext E266)
      refine own_new X268 hx hZ hown (ow_10 hw) (ow_11 hw) (ow_12 hw) eh268 (hb hby at_43) (pc' := 46) rfl (by decide) (by decide) ?_
      intro T270 h270 a270 g270 X270 e270 E270 A270 D270
      have lt_a260_a270 : a260 < a270 := by rw [g270]; exact f271.lt
      have lt_a263_a270 : a263 < a270 := by rw [g270]; exact f272.lt
      have lt_a266_a270 : a266 < a270 := by rw [g270]; exact A266.lt
      have ge_a270 : n0 ≤ a270 := by rw [g270]; exact z269
      have F270_previous : Fld Z h270 a270 "com/example/slot3/slot3/frame/Post" "previous" "Lcom/example/slot3/slot3/frame/Post;" (.null) := D270 (Or.inl (ow_27 hw)) (ty := (.object "com/example/slot3/slot3/frame/Post")) (by decide)
      have F270_chain : Fld Z h270 a270 "com/example/slot3/slot3/frame/Post" "chain" "Lcom/example/slot3/slot3/frame/PostChain;" (.null) := D270 (Or.inl (ow_29 hw)) (ty := (.object "com/example/slot3/slot3/frame/PostChain")) (by decide)
      have F270_following : Fld Z h270 a270 "com/example/slot3/slot3/frame/Post" "following" "Lcom/example/slot3/slot3/frame/Post;" (.null) := D270 (Or.inl (ow_38 hw)) (ty := (.object "com/example/slot3/slot3/frame/Post")) (by decide)
      refine own_dup X270 hx (hb hby at_46) rfl (pc' := 47) rfl ?_
      have z274 : n0 ≤ h270.size := (Nat.le_trans z269 E270.1)
      refine own_callC X270 hx hZ rfl hown (ow_13 hw) (ow_14 hw) (ow_12 hw) (ow_15 hw) (by decide) (rm_poi l Z a0 hw a270 h270 n0 z274) e270 (W := 1) (by decide) (by decide) opd___V rfl (rest := [(.ref a270)]) rfl (hb hby at_47) (Nat.le_of_eq rfl) (by rw [hml]; rfl) (by decide) (by decide) (pc' := 50) rfl ?_
      intro v273 T273 L273 X273 q273
      obtain ⟨rfl, Nq273, eh273⟩ := q273
      have N273 := Fr.app N268 Nq273
      show own_G p e below s _ _ _ (T273.setTop (mkF m 50 #[.val (.int u0), .val (.int u1), .val (.int (3 : Int32)), .val (.int (2 : Int32)), .val (.ref a260), .val (.ref a263), .val (.ref a266), .unset, .unset, .unset, .unset, .unset, .unset, .unset] [(.ref a270)]))
      refine own_astore X273 hx (hb hby at_50) rfl (l' := #[.val (.int u0), .val (.int u1), .val (.int (3 : Int32)), .val (.int (2 : Int32)), .val (.ref a260), .val (.ref a263), .val (.ref a266), .val (.ref a270), .unset, .unset, .unset, .unset, .unset, .unset]) rfl (pc' := 52) rfl ?_
      refine own_aload X273 hx (hb hby at_52) rfl rfl (pc' := 54) rfl ?_
      refine own_aload X273 hx (hb hby at_54) rfl rfl (pc' := 56) rfl ?_
      have f276 : Exa Z h270 a260 "com/example/slot3/slot3/frame/PostChain" := (f271.ext E270)
      have f277 : Exa Z h270 a263 "com/example/slot3/slot3/frame/Post" := (f272.ext E270)
      have f278 : Fld Z h270 a260 "com/example/slot3/slot3/frame/PostChain" "first" "Lcom/example/slot3/slot3/frame/Post;" (.null) := (((F260_first.ext E263).ext E266).ext E270)
      have f279 : Fld Z h270 a260 "com/example/slot3/slot3/frame/PostChain" "last" "Lcom/example/slot3/slot3/frame/Post;" (.null) := (((F260_last.ext E263).ext E266).ext E270)
      have f280 : Fld Z h270 a260 "com/example/slot3/slot3/frame/PostChain" "count" "I" (.int (0 : Int32)) := (((F260_count.ext E263).ext E266).ext E270)
      have f281 : Fld Z h270 a263 "com/example/slot3/slot3/frame/Post" "following" "Lcom/example/slot3/slot3/frame/Post;" (.null) := ((F263_following.ext E266).ext E270)
      have f282 : Fld Z h270 a263 "com/example/slot3/slot3/frame/Post" "previous" "Lcom/example/slot3/slot3/frame/Post;" (.null) := ((F263_previous.ext E266).ext E270)
      have f283 : Fld Z h270 a263 "com/example/slot3/slot3/frame/Post" "chain" "Lcom/example/slot3/slot3/frame/PostChain;" (.null) := ((F263_chain.ext E266).ext E270)
      refine own_callV X273 hx hZ hown (ow_17 hw) (ow_18 hw) (ow_20 hw) (ow_19 hw) (ow_3 hw) (ow_21 hw) (by decide) f276 (rm_ap1 l Z a0 hw a260 a263 (0 : Int32) .null .null .null .null h270 n0 z274 f276 f277 f278 f279 f280 f281 f282 f283 ge_a260 ge_a263 (Nat.ne_of_lt lt_a260_a263)) eh273 (W := 0) (by decide) (by decide) opd__Lcom_example_slot3_slot3_frame_Post__V rfl (rest := []) rfl (hb hby at_56) (Nat.le_of_eq rfl) (by rw [hml]; rfl) (by decide) (by decide) (pc' := 59) rfl ?_
      intro v275 T275 L275 X275 q275
      obtain ⟨rfl, Nq275, K275, p275_0, p275_1, p275_2, p275_3, p275_4, p275_5⟩ := q275
      have N275 := Fr.app N273 Nq275
      show own_G p e below s _ _ _ (T275.setTop (mkF m 59 #[.val (.int u0), .val (.int u1), .val (.int (3 : Int32)), .val (.int (2 : Int32)), .val (.ref a260), .val (.ref a263), .val (.ref a266), .val (.ref a270), .unset, .unset, .unset, .unset, .unset, .unset] []))
      refine own_iloadN X275 hx (hb hby at_59) rfl (pc' := 60) rfl ?_
      refine own_iconst X275 hx (hb hby at_60) (z := (2 : Int32)) rfl (pc' := 61) rfl ?_
      refine own_icmpF X275 hx (hb hby at_61) (by decide) (pc' := 64) rfl ?_
      refine own_aload X275 hx (hb hby at_64) rfl rfl (pc' := 66) rfl ?_
      refine own_aload X275 hx (hb hby at_66) rfl rfl (pc' := 68) rfl ?_
      have f285 : Exa Z T275.heap a260 "com/example/slot3/slot3/frame/PostChain" := (f276.keep K275)
      have f286 : Exa Z T275.heap a266 "com/example/slot3/slot3/frame/Post" := ((A266.ext E270).keep K275)
      have f287 : Exa Z T275.heap a263 "com/example/slot3/slot3/frame/Post" := (f277.keep K275)
      have f288 : Fld Z T275.heap a266 "com/example/slot3/slot3/frame/Post" "following" "Lcom/example/slot3/slot3/frame/Post;" (.null) := ((F266_following.ext E270).keep K275 (ninS (Nat.ne_of_gt lt_a260_a266) (ninS (Nat.ne_of_gt lt_a263_a266) nin0)))
      have f289 : Fld Z T275.heap a266 "com/example/slot3/slot3/frame/Post" "previous" "Lcom/example/slot3/slot3/frame/Post;" (.null) := ((F266_previous.ext E270).keep K275 (ninS (Nat.ne_of_gt lt_a260_a266) (ninS (Nat.ne_of_gt lt_a263_a266) nin0)))
      have f290 : Fld Z T275.heap a266 "com/example/slot3/slot3/frame/Post" "chain" "Lcom/example/slot3/slot3/frame/PostChain;" (.null) := ((F266_chain.ext E270).keep K275 (ninS (Nat.ne_of_gt lt_a260_a266) (ninS (Nat.ne_of_gt lt_a263_a266) nin0)))
      have z291 : n0 ≤ T275.heap.size := (Nat.le_trans z274 K275.1)
      refine own_callV X275 hx hZ hown (ow_17 hw) (ow_18 hw) (ow_20 hw) (ow_19 hw) (ow_3 hw) (ow_21 hw) (by decide) f285 (rm_ap2 l Z a0 hw a260 a266 a263 ((0 : Int32) + (1 : Int32)) (.ref a263) .null .null .null .null .null (.ref a260) T275.heap n0 z291 f285 f286 p275_0 p275_1 p275_2 f287 f288 f289 f290 p275_3 p275_4 p275_5 ge_a260 ge_a266 ge_a263 (Nat.ne_of_lt lt_a260_a266) (Nat.ne_of_lt lt_a260_a263) (Nat.ne_of_gt lt_a263_a266)) rfl (W := 0) (by decide) (by decide) opd__Lcom_example_slot3_slot3_frame_Post__V rfl (rest := []) rfl (hb hby at_68) (Nat.le_of_eq rfl) (by rw [hml]; rfl) (by decide) (by decide) (pc' := 71) rfl ?_
      intro v284 T284 L284 X284 q284
      obtain ⟨rfl, Nq284, K284, p284_0, p284_1, p284_2, p284_3, p284_4, p284_5, p284_6, p284_7, p284_8⟩ := q284
      have N284 := Fr.app N275 Nq284
      show own_G p e below s _ _ _ (T284.setTop (mkF m 71 #[.val (.int u0), .val (.int u1), .val (.int (3 : Int32)), .val (.int (2 : Int32)), .val (.ref a260), .val (.ref a263), .val (.ref a266), .val (.ref a270), .unset, .unset, .unset, .unset, .unset, .unset] []))
      refine own_iloadN X284 hx (hb hby at_71) rfl (pc' := 72) rfl ?_
      refine own_iconst X284 hx (hb hby at_72) (z := (3 : Int32)) rfl (pc' := 73) rfl ?_
      refine own_icmpF X284 hx (hb hby at_73) (by decide) (pc' := 76) rfl ?_
      refine own_aload X284 hx (hb hby at_76) rfl rfl (pc' := 78) rfl ?_
      refine own_aload X284 hx (hb hby at_78) rfl rfl (pc' := 80) rfl ?_
      have f293 : Exa Z T284.heap a260 "com/example/slot3/slot3/frame/PostChain" := (f285.keep K284)
      have f294 : Exa Z T284.heap a270 "com/example/slot3/slot3/frame/Post" := ((A270.keep K275).keep K284)
      have f295 : Exa Z T284.heap a266 "com/example/slot3/slot3/frame/Post" := (f286.keep K284)
      have f296 : Fld Z T284.heap a270 "com/example/slot3/slot3/frame/Post" "following" "Lcom/example/slot3/slot3/frame/Post;" (.null) := ((F270_following.keep K275 (ninS (Nat.ne_of_gt lt_a260_a270) (ninS (Nat.ne_of_gt lt_a263_a270) nin0))).keep K284 (ninS (Nat.ne_of_gt lt_a260_a270) (ninS (Nat.ne_of_gt lt_a266_a270) (ninS (Nat.ne_of_gt lt_a263_a270) nin0))))
      have f297 : Fld Z T284.heap a270 "com/example/slot3/slot3/frame/Post" "previous" "Lcom/example/slot3/slot3/frame/Post;" (.null) := ((F270_previous.keep K275 (ninS (Nat.ne_of_gt lt_a260_a270) (ninS (Nat.ne_of_gt lt_a263_a270) nin0))).keep K284 (ninS (Nat.ne_of_gt lt_a260_a270) (ninS (Nat.ne_of_gt lt_a266_a270) (ninS (Nat.ne_of_gt lt_a263_a270) nin0))))
      have f298 : Fld Z T284.heap a270 "com/example/slot3/slot3/frame/Post" "chain" "Lcom/example/slot3/slot3/frame/PostChain;" (.null) := ((F270_chain.keep K275 (ninS (Nat.ne_of_gt lt_a260_a270) (ninS (Nat.ne_of_gt lt_a263_a270) nin0))).keep K284 (ninS (Nat.ne_of_gt lt_a260_a270) (ninS (Nat.ne_of_gt lt_a266_a270) (ninS (Nat.ne_of_gt lt_a263_a270) nin0))))
      have z299 : n0 ≤ T284.heap.size := (Nat.le_trans z291 K284.1)
      refine own_callV X284 hx hZ hown (ow_17 hw) (ow_18 hw) (ow_20 hw) (ow_19 hw) (ow_3 hw) (ow_21 hw) (by decide) f293 (rm_ap2 l Z a0 hw a260 a270 a266 (((0 : Int32) + (1 : Int32)) + (1 : Int32)) (.ref a263) .null .null .null .null (.ref a263) (.ref a260) T284.heap n0 z299 f293 f294 p284_0 p284_1 p284_2 f295 f296 f297 f298 p284_3 p284_4 p284_5 ge_a260 ge_a270 ge_a266 (Nat.ne_of_lt lt_a260_a270) (Nat.ne_of_lt lt_a260_a266) (Nat.ne_of_gt lt_a266_a270)) rfl (W := 0) (by decide) (by decide) opd__Lcom_example_slot3_slot3_frame_Post__V rfl (rest := []) rfl (hb hby at_80) (Nat.le_of_eq rfl) (by rw [hml]; rfl) (by decide) (by decide) (pc' := 83) rfl ?_
      intro v292 T292 L292 X292 q292
      obtain ⟨rfl, Nq292, K292, p292_0, p292_1, p292_2, p292_3, p292_4, p292_5, p292_6, p292_7, p292_8⟩ := q292
      have N292 := Fr.app N284 Nq292
      show own_G p e below s _ _ _ (T292.setTop (mkF m 83 #[.val (.int u0), .val (.int u1), .val (.int (3 : Int32)), .val (.int (2 : Int32)), .val (.ref a260), .val (.ref a263), .val (.ref a266), .val (.ref a270), .unset, .unset, .unset, .unset, .unset, .unset] []))
      refine own_iloadN X292 hx (hb hby at_83) rfl (pc' := 84) rfl ?_
      refine own_ifT X292 hx (hb hby at_84) (by decide) (by decide) (pc' := 92) rfl ?_
      refine own_iloadN X292 hx (hb hby at_92) rfl (pc' := 93) rfl ?_
      refine own_iconst X292 hx (hb hby at_93) (z := (1 : Int32)) rfl (pc' := 94) rfl ?_
      refine own_icmpT X292 hx (hb hby at_94) (by decide) (by decide) (pc' := 102) rfl ?_
      refine own_aload X292 hx (hb hby at_102) rfl rfl (pc' := 104) rfl ?_
      refine own_astore X292 hx (hb hby at_104) rfl (l' := #[.val (.int u0), .val (.int u1), .val (.int (3 : Int32)), .val (.int (2 : Int32)), .val (.ref a260), .val (.ref a263), .val (.ref a266), .val (.ref a270), .val (.ref a270), .unset, .unset, .unset, .unset, .unset]) rfl (pc' := 106) rfl ?_
      refine own_aload X292 hx (hb hby at_106) rfl rfl (pc' := 108) rfl ?_
      refine own_aload X292 hx (hb hby at_108) rfl rfl (pc' := 110) rfl ?_
      have f301 : Exa Z T292.heap a260 "com/example/slot3/slot3/frame/PostChain" := (f293.keep K292)
      have f302 : Exa Z T292.heap a270 "com/example/slot3/slot3/frame/Post" := (f294.keep K292)
      have f303 : Exa Z T292.heap a266 "com/example/slot3/slot3/frame/Post" := (f295.keep K292)
      have z304 : n0 ≤ T292.heap.size := (Nat.le_trans z299 K292.1)
      refine own_callV X292 hx hZ hown (ow_32 hw) (ow_33 hw) (ow_35 hw) (ow_34 hw) (ow_3 hw) (ow_36 hw) (by decide) f301 (rm_ulrn l Z a0 hw a260 a270 a266 ((((0 : Int32) + (1 : Int32)) + (1 : Int32)) + (1 : Int32)) (.ref a263) (.ref a270) (.ref a260) (.ref a270) (.ref a263) (.ref a260) T292.heap n0 z304 f301 f302 p292_0 p292_1 p292_2 p292_3 p292_4 p292_5 f303 p292_6 p292_7 p292_8 ge_a260 ge_a270 ge_a266 (Nat.ne_of_lt lt_a260_a270) (Nat.ne_of_lt lt_a260_a266) (Nat.ne_of_gt lt_a266_a270)) rfl (W := 0) (by decide) (by decide) opd__Lcom_example_slot3_slot3_frame_Post__V rfl (rest := []) rfl (hb hby at_110) (Nat.le_of_eq rfl) (by rw [hml]; rfl) (by decide) (by decide) (pc' := 113) rfl ?_
      intro v300 T300 L300 X300 q300
      obtain ⟨rfl, Nq300, K300, p300_0, p300_1, p300_2, p300_3, p300_4, p300_5, p300_6, p300_7, p300_8⟩ := q300
      have N300 := Fr.app N292 Nq300
      show own_G p e below s _ _ _ (T300.setTop (mkF m 113 #[.val (.int u0), .val (.int u1), .val (.int (3 : Int32)), .val (.int (2 : Int32)), .val (.ref a260), .val (.ref a263), .val (.ref a266), .val (.ref a270), .val (.ref a270), .unset, .unset, .unset, .unset, .unset] []))
      refine own_iloadN X300 hx (hb hby at_113) rfl (pc' := 114) rfl ?_
      refine own_iconst X300 hx (hb hby at_114) (z := (1 : Int32)) rfl (pc' := 115) rfl ?_
      refine own_isub X300 hx (hb hby at_115) (pc' := 116) rfl ?_
      refine own_istore X300 hx (hb hby at_116) (l' := #[.val (.int u0), .val (.int u1), .val (.int (3 : Int32)), .val (.int (2 : Int32)), .val (.ref a260), .val (.ref a263), .val (.ref a266), .val (.ref a270), .val (.ref a270), .val (.int ((3 : Int32) - (1 : Int32))), .unset, .unset, .unset, .unset]) rfl (pc' := 118) rfl ?_
      refine own_iload X300 hx (hb hby at_118) rfl (pc' := 120) rfl ?_
      refine own_iconst X300 hx (hb hby at_120) (z := (1 : Int32)) rfl (pc' := 121) rfl ?_
      refine own_icmpF X300 hx (hb hby at_121) (by decide) (pc' := 124) rfl ?_
      refine own_iloadN X300 hx (hb hby at_124) rfl (pc' := 125) rfl ?_
      refine own_ifT X300 hx (hb hby at_125) (by decide) (by decide) (pc' := 133) rfl ?_
      refine own_aload X300 hx (hb hby at_133) rfl rfl (pc' := 135) rfl ?_
      refine own_goto X300 hx (hb hby at_135) (by decide) (pc' := 139) rfl ?_
      refine own_astore X300 hx (hb hby at_139) rfl (l' := #[.val (.int u0), .val (.int u1), .val (.int (3 : Int32)), .val (.int (2 : Int32)), .val (.ref a260), .val (.ref a263), .val (.ref a266), .val (.ref a270), .val (.ref a270), .val (.int ((3 : Int32) - (1 : Int32))), .val (.ref a263), .unset, .unset, .unset]) rfl (pc' := 141) rfl ?_
      refine own_iload X300 hx (hb hby at_141) rfl (pc' := 143) rfl ?_
      refine own_iconst X300 hx (hb hby at_143) (z := (2 : Int32)) rfl (pc' := 144) rfl ?_
      refine own_icmpF X300 hx (hb hby at_144) (by decide) (pc' := 147) rfl ?_
      refine own_iloadN X300 hx (hb hby at_147) rfl (pc' := 148) rfl ?_
      refine own_iconst X300 hx (hb hby at_148) (z := (2 : Int32)) rfl (pc' := 149) rfl ?_
      refine own_icmpF X300 hx (hb hby at_149) (by decide) (pc' := 152) rfl ?_
      refine own_aload X300 hx (hb hby at_152) rfl rfl (pc' := 154) rfl ?_
      refine own_goto X300 hx (hb hby at_154) (by decide) (pc' := 163) rfl ?_
      refine own_astore X300 hx (hb hby at_163) rfl (l' := #[.val (.int u0), .val (.int u1), .val (.int (3 : Int32)), .val (.int (2 : Int32)), .val (.ref a260), .val (.ref a263), .val (.ref a266), .val (.ref a270), .val (.ref a270), .val (.int ((3 : Int32) - (1 : Int32))), .val (.ref a263), .val (.ref a266), .unset, .unset]) rfl (pc' := 165) rfl ?_
      refine own_iload X300 hx (hb hby at_165) rfl (pc' := 167) rfl ?_
      refine own_ifT X300 hx (hb hby at_167) (by decide) (by decide) (pc' := 174) rfl ?_
      refine own_iload X300 hx (hb hby at_174) rfl (pc' := 176) rfl ?_
      refine own_iconst X300 hx (hb hby at_176) (z := (1 : Int32)) rfl (pc' := 177) rfl ?_
      refine own_icmpT X300 hx (hb hby at_177) (by decide) (by decide) (pc' := 185) rfl ?_
      refine own_aload X300 hx (hb hby at_185) rfl rfl (pc' := 187) rfl ?_
      refine own_astore X300 hx (hb hby at_187) rfl (l' := #[.val (.int u0), .val (.int u1), .val (.int (3 : Int32)), .val (.int (2 : Int32)), .val (.ref a260), .val (.ref a263), .val (.ref a266), .val (.ref a270), .val (.ref a270), .val (.int ((3 : Int32) - (1 : Int32))), .val (.ref a263), .val (.ref a266), .val (.ref a266), .unset]) rfl (pc' := 189) rfl ?_
      refine own_aload X300 hx (hb hby at_189) rfl rfl (pc' := 191) rfl ?_
      refine own_getF X300 hx hZ hown (ow_39 hw) rfl p300_0 (hb hby at_191) (pc' := 194) rfl ?_
      intro T305 X305 e305
      refine own_aload X305 hx (hb hby at_194) rfl rfl (pc' := 196) rfl ?_
      refine own_acmpF X305 hx (hb hby at_196) rfl rfl (by simp [XT.acmp]) (pc' := 199) rfl ?_
      refine own_aload X305 hx (hb hby at_199) rfl rfl (pc' := 201) rfl ?_
      refine own_getF X305 hx hZ hown (ow_40 hw) e305 p300_1 (hb hby at_201) (pc' := 204) rfl ?_
      intro T306 X306 e306
      refine own_aload X306 hx (hb hby at_204) rfl rfl (pc' := 206) rfl ?_
      refine own_acmpF X306 hx (hb hby at_206) rfl rfl (by simp [XT.acmp]) (pc' := 209) rfl ?_
      refine own_aload X306 hx (hb hby at_209) rfl rfl (pc' := 211) rfl ?_
      refine own_getF X306 hx hZ hown (ow_41 hw) e306 p300_2 (hb hby at_211) (pc' := 214) rfl ?_
      intro T307 X307 e307
      refine own_iload X307 hx (hb hby at_214) rfl (pc' := 216) rfl ?_
      refine own_icmpF X307 hx (hb hby at_216) (by decide) (pc' := 219) rfl ?_
      refine own_iconst X307 hx (hb hby at_219) (z := (1 : Int32)) rfl (pc' := 220) rfl ?_
      refine own_goto X307 hx (hb hby at_220) (by decide) (pc' := 224) rfl ?_
      refine own_istore X307 hx (hb hby at_224) (l' := #[.val (.int u0), .val (.int u1), .val (.int (3 : Int32)), .val (.int (2 : Int32)), .val (.ref a260), .val (.ref a263), .val (.ref a266), .val (.ref a270), .val (.ref a270), .val (.int ((3 : Int32) - (1 : Int32))), .val (.ref a263), .val (.ref a266), .val (.ref a266), .val (.int (1 : Int32))]) rfl (pc' := 226) rfl ?_
      refine own_iload X307 hx (hb hby at_226) rfl (pc' := 228) rfl ?_
      refine own_ifF X307 hx (hb hby at_228) (by decide) (pc' := 231) rfl ?_
      refine own_aload X307 hx (hb hby at_231) rfl rfl (pc' := 233) rfl ?_
      refine own_getF X307 hx hZ hown (ow_42 hw) e307 p300_3 (hb hby at_233) (pc' := 236) rfl ?_
      intro T308 X308 e308
      refine own_ifnonnullF X308 hx (hb hby at_236) (pc' := 239) rfl ?_
      refine own_aload X308 hx (hb hby at_239) rfl rfl (pc' := 241) rfl ?_
      refine own_getF X308 hx hZ hown (ow_43 hw) e308 p300_4 (hb hby at_241) (pc' := 244) rfl ?_
      intro T309 X309 e309
      refine own_ifnonnullF X309 hx (hb hby at_244) (pc' := 247) rfl ?_
      refine own_aload X309 hx (hb hby at_247) rfl rfl (pc' := 249) rfl ?_
      refine own_getF X309 hx hZ hown (ow_44 hw) e309 p300_5 (hb hby at_249) (pc' := 252) rfl ?_
      intro T310 X310 e310
      refine own_ifnonnullF X310 hx (hb hby at_252) (pc' := 255) rfl ?_
      refine own_iconst X310 hx (hb hby at_255) (z := (1 : Int32)) rfl (pc' := 256) rfl ?_
      refine own_goto X310 hx (hb hby at_256) (by decide) (pc' := 260) rfl ?_
      refine own_istore X310 hx (hb hby at_260) (l' := #[.val (.int u0), .val (.int u1), .val (.int (3 : Int32)), .val (.int (2 : Int32)), .val (.ref a260), .val (.ref a263), .val (.ref a266), .val (.ref a270), .val (.ref a270), .val (.int ((3 : Int32) - (1 : Int32))), .val (.ref a263), .val (.ref a266), .val (.ref a266), .val (.int (1 : Int32))]) rfl (pc' := 262) rfl ?_
      refine own_aload X310 hx (hb hby at_262) rfl rfl (pc' := 264) rfl ?_
      refine own_ifnullF X310 hx (hb hby at_264) (pc' := 267) rfl ?_
      refine own_iload X310 hx (hb hby at_267) rfl (pc' := 269) rfl ?_
      refine own_ifF X310 hx (hb hby at_269) (by decide) (pc' := 272) rfl ?_
      refine own_aload X310 hx (hb hby at_272) rfl rfl (pc' := 274) rfl ?_
      have f311 : Fld Z T300.heap a263 "com/example/slot3/slot3/frame/Post" "previous" "Lcom/example/slot3/slot3/frame/Post;" (.null) := ((p284_7.keep K292 (ninS (Nat.ne_of_gt lt_a260_a263) (ninS (Nat.ne_of_lt lt_a263_a270) (ninS (Nat.ne_of_lt lt_a263_a266) nin0)))).keep K300 (ninS (Nat.ne_of_gt lt_a260_a263) (ninS (Nat.ne_of_lt lt_a263_a270) (ninS (Nat.ne_of_lt lt_a263_a266) nin0))))
      refine own_getF X310 hx hZ hown (ow_43 hw) e310 f311 (hb hby at_274) (pc' := 277) rfl ?_
      intro T312 X312 e312
      refine own_ifnonnullF X312 hx (hb hby at_277) (pc' := 280) rfl ?_
      refine own_aload X312 hx (hb hby at_280) rfl rfl (pc' := 282) rfl ?_
      have f313 : Fld Z T300.heap a263 "com/example/slot3/slot3/frame/Post" "following" "Lcom/example/slot3/slot3/frame/Post;" (.ref a266) := ((p284_6.keep K292 (ninS (Nat.ne_of_gt lt_a260_a263) (ninS (Nat.ne_of_lt lt_a263_a270) (ninS (Nat.ne_of_lt lt_a263_a266) nin0)))).keep K300 (ninS (Nat.ne_of_gt lt_a260_a263) (ninS (Nat.ne_of_lt lt_a263_a270) (ninS (Nat.ne_of_lt lt_a263_a266) nin0))))
      refine own_getF X312 hx hZ hown (ow_42 hw) e312 f313 (hb hby at_282) (pc' := 285) rfl ?_
      intro T314 X314 e314
      refine own_aload X314 hx (hb hby at_285) rfl rfl (pc' := 287) rfl ?_
      refine own_acmpF X314 hx (hb hby at_287) rfl rfl (by simp [XT.acmp]) (pc' := 290) rfl ?_
      refine own_aload X314 hx (hb hby at_290) rfl rfl (pc' := 292) rfl ?_
      have f315 : Fld Z T300.heap a263 "com/example/slot3/slot3/frame/Post" "chain" "Lcom/example/slot3/slot3/frame/PostChain;" (.ref a260) := ((p284_8.keep K292 (ninS (Nat.ne_of_gt lt_a260_a263) (ninS (Nat.ne_of_lt lt_a263_a270) (ninS (Nat.ne_of_lt lt_a263_a266) nin0)))).keep K300 (ninS (Nat.ne_of_gt lt_a260_a263) (ninS (Nat.ne_of_lt lt_a263_a270) (ninS (Nat.ne_of_lt lt_a263_a266) nin0))))
      refine own_getF X314 hx hZ hown (ow_44 hw) e314 f315 (hb hby at_292) (pc' := 295) rfl ?_
      intro T316 X316 e316
      refine own_aload X316 hx (hb hby at_295) rfl rfl (pc' := 297) rfl ?_
      refine own_acmpF X316 hx (hb hby at_297) rfl rfl (by simp [XT.acmp]) (pc' := 300) rfl ?_
      refine own_iconst X316 hx (hb hby at_300) (z := (1 : Int32)) rfl (pc' := 301) rfl ?_
      refine own_goto X316 hx (hb hby at_301) (by decide) (pc' := 305) rfl ?_
      refine own_istore X316 hx (hb hby at_305) (l' := #[.val (.int u0), .val (.int u1), .val (.int (3 : Int32)), .val (.int (2 : Int32)), .val (.ref a260), .val (.ref a263), .val (.ref a266), .val (.ref a270), .val (.ref a270), .val (.int ((3 : Int32) - (1 : Int32))), .val (.ref a263), .val (.ref a266), .val (.ref a266), .val (.int (1 : Int32))]) rfl (pc' := 307) rfl ?_
      refine own_aload X316 hx (hb hby at_307) rfl rfl (pc' := 309) rfl ?_
      refine own_ifnullF X316 hx (hb hby at_309) (pc' := 312) rfl ?_
      refine own_iload X316 hx (hb hby at_312) rfl (pc' := 314) rfl ?_
      refine own_ifF X316 hx (hb hby at_314) (by decide) (pc' := 317) rfl ?_
      refine own_aload X316 hx (hb hby at_317) rfl rfl (pc' := 319) rfl ?_
      refine own_getF X316 hx hZ hown (ow_43 hw) e316 p300_7 (hb hby at_319) (pc' := 322) rfl ?_
      intro T317 X317 e317
      refine own_aload X317 hx (hb hby at_322) rfl rfl (pc' := 324) rfl ?_
      refine own_acmpF X317 hx (hb hby at_324) rfl rfl (by simp [XT.acmp]) (pc' := 327) rfl ?_
      refine own_aload X317 hx (hb hby at_327) rfl rfl (pc' := 329) rfl ?_
      refine own_getF X317 hx hZ hown (ow_42 hw) e317 p300_6 (hb hby at_329) (pc' := 332) rfl ?_
      intro T318 X318 e318
      refine own_ifnonnullF X318 hx (hb hby at_332) (pc' := 335) rfl ?_
      refine own_aload X318 hx (hb hby at_335) rfl rfl (pc' := 337) rfl ?_
      refine own_getF X318 hx hZ hown (ow_44 hw) e318 p300_8 (hb hby at_337) (pc' := 340) rfl ?_
      intro T319 X319 e319
      refine own_aload X319 hx (hb hby at_340) rfl rfl (pc' := 342) rfl ?_
      refine own_acmpF X319 hx (hb hby at_342) rfl rfl (by simp [XT.acmp]) (pc' := 345) rfl ?_
      refine own_iconst X319 hx (hb hby at_345) (z := (1 : Int32)) rfl (pc' := 346) rfl ?_
      refine own_goto X319 hx (hb hby at_346) (by decide) (pc' := 350) rfl ?_
      refine own_istore X319 hx (hb hby at_350) (l' := #[.val (.int u0), .val (.int u1), .val (.int (3 : Int32)), .val (.int (2 : Int32)), .val (.ref a260), .val (.ref a263), .val (.ref a266), .val (.ref a270), .val (.ref a270), .val (.int ((3 : Int32) - (1 : Int32))), .val (.ref a263), .val (.ref a266), .val (.ref a266), .val (.int (1 : Int32))]) rfl (pc' := 352) rfl ?_
      refine own_iload X319 hx (hb hby at_352) rfl (pc' := 354) rfl ?_
      exact own_retZ X319 hx hret hlk (Or.inr rfl) (hb hby at_354) ⟨rfl, N300⟩ (by decide) (by decide)
set_option maxRecDepth 65536 in
set_option maxHeartbeats 40000000 in
theorem comes_1 {Post : Tables → Env → Array Value → State → Outcome → State → Prop} (hpost : ∀ tb e args s v u, (limb_1_1.after args s (.returned v) u = true ∧ limb_1_2.after args s (.returned v) u = true ∧ True) → FrameEnd s (.returned v) u (Jvm.fieldLocs frame_1_writes args s ++ Jvm.arrayLocs frame_1_arrays args s ++ Jvm.staticLocs frame_1_statics s) 16 192 → Post tb e args s (.returned v) u) :
    ArmFor flags0 classFile x code maxLocals ret World_1 tables_1 room_1 Calls_1 rest_1 Pre_1 Post := by
  intro l hfl _ _ p e ha hc hk s m args below hf hA hF happ hP
  obtain ⟨hcalls, hrest, hpre⟩ := hP
  obtain ⟨-, -, -, hnamed, -, -, -, hat⟩ := (Spec.applies_iff hf).mp happ
  obtain ⟨hg, hn⟩ := and_e (Cond.before_iff.mp (show (Jvm.Cond.and given_1 narrow_1).before args s = true from hpre))
  obtain ⟨gc, gr0⟩ := and_e hg
  obtain ⟨gk0, gr1⟩ := and_e gr0
  obtain ⟨w0, w1, rfl⟩ : ∃ w0 w1 : Value, args = #[w0, w1] := by
    have hs : args.size = 2 := by simpa [Cond.value, given_1] using gc
    obtain ⟨L⟩ := args
    match L, hs with
    | [w0, w1], _ => exact ⟨w0, w1, rfl⟩
  have hw := fun d (hd : d ∈ tables_1) => atoms_spec (ws := Jvm.Cond.code x code maxLocals ret :: tables_1) hat d (List.mem_cons_of_mem _ hd)
  obtain ⟨i0, ei0⟩ := is_v gk0
  obtain rfl : w0 = (.int i0) := Option.some.inj ei0
  obtain ⟨i1, ei1⟩ := is_v gr1
  obtain rfl : w1 = (.int i1) := Option.some.inj ei1
  obtain ⟨n, o, h1, h2, h3, _, L, rfl, ⟨rfl, N⟩, hq⟩ := own_law l s _ hw i0 i1 s.heap s.heap.size (Nat.le_refl _) p e ha hc hk s m _ below hf ((Spec.applies_iff_loose hf).mp happ).1 ⟨rfl, State.Warmed39.refl s, rfl⟩ trivial
  refine ⟨n, _, h1, h2, h3, hpost _ _ _ _ _ _ ⟨Cond.after_iff.mpr rfl, Cond.after_iff.mpr (eq_i res_at (Term.int_eval (1)) rfl), trivial⟩ ⟨hq.1, hq.2.1, (hq.2.2.sift fun y hy => Or.inr (N y hy)).mono (by decide) (by decide)⟩⟩
theorem main_1_1 : Claimed_1_1 := comes_1 fun _ _ _ _ _ _ h hF => ⟨h.1, hF⟩
theorem main_1_2 : Claimed_1_2 := comes_1 fun _ _ _ _ _ _ h hF => ⟨h.2.1, hF⟩
end Jvm.Pilot.@@N@@
namespace Jvm.Pilot.@@N@@
open Jvm Jvm.ClassFile Sem Op Lib Jvm.Free Jvm.Stand Jvm.Pilot.@@N@@.Jvm.D
/-! MADE BY PROGRAM (witnessworld.py) out of the Statement's table words and the real class files: 10 classes; the members and pool entries that the words name. The judged class is class 1, her method 1. -/
namespace start1
open Jvm.ClassFile
def u (s : String) : CpInfo := .utf8 (stringToUtf16 s)
/-- a pool by its gaps: so many unusable entries, then the entry; so many at the end -/
def gap : Nat → List CpInfo → List CpInfo
  | 0, r => r
  | n + 1, r => .unusable :: gap n r
def poolList (es : List (Nat × CpInfo)) (last : Nat) : List CpInfo := es.foldr (fun e r => gap e.1 (e.2 :: r)) (gap last [])
def pool (es : List (Nat × CpInfo)) (last : Nat) : Array CpInfo := ⟨poolList es last⟩
def fileOf (pool : Array CpInfo) (this : Nat) (attrs : Array Attribute := #[]) (ms : Array MethodInfo := #[]) (fl : Nat := 33) (sup : Nat := 0) (ifs : Array Nat := #[]) (fds : Array FieldInfo := #[]) : ClassFile where
  minorVersion := 0
  majorVersion := 65
  constantPool := pool
  accessFlags := fl
  thisClass := this
  superClass := sup
  interfaces := ifs
  fields := fds
  methods := ms
  attributes := attrs
def plain (name : String) (sup : Option ClassId) : Class where
  name := name
  kind := .ordinary
  loader := none
  accessFlags := 33
  super := sup
  interfaces := #[]
  cf := none
  fields := #[]
  methods := #[]
  instanceTypes := #[]
  staticTypes := #[]
  resolved := #[]
  callSites := []
  init := .initialized
  statics := none
  mirror := none

def pool0 : Array CpInfo := pool [(5, u "<init>"), (0, u "()V"), (1, .class_ 10), (1, u "java/lang/Object")] 113

def k0c0 : Code := { maxStack := 0, maxLocals := 1, code := object_method_1_code, exceptionTable := #[], attributes := #[] }
def k0m0 : Method := { name := "<init>", desc := "()V", sig := { parameters := [], returnType := none }, accessFlags := 1, code := some k0c0 }
/-- java/lang/Object -/
def k0 : Class := { plain "java/lang/Object" none with
  accessFlags := 33
  interfaces := #[]
  cf := some (fileOf pool0 8 #[] #[{ accessFlags := 1, nameIndex := 5, descriptorIndex := 6, attributes := #[] }] 33 0 #[] #[])
  fields := #[]
  methods := #[k0m0]
  instanceTypes := #[]
  staticTypes := #[]
  resolved := Array.replicate 124 none
  statics := none }

def pool1 : Array CpInfo := pool [(2, .class_ 4), (0, .nameAndType 5 6), (0, u "java/lang/Object"), (0, u "<init>"), (0, u "()V"), (0, .integer 2147483647), (0, .class_ 9), (0, u "com/example/slot3/slot3/frame/PostChain"), (0, .methodref 8 3), (0, .class_ 12), (0, u "com/example/slot3/slot3/frame/Post"), (0, .methodref 11 3), (0, .methodref 8 15), (0, .nameAndType 16 17), (0, u "append"), (0, u "(Lcom/example/slot3/slot3/frame/Post;)V"), (0, .methodref 8 19), (0, .nameAndType 20 17), (0, u "unlink"), (0, .fieldref 8 22), (0, .nameAndType 23 24), (0, u "first"), (0, u "Lcom/example/slot3/slot3/frame/Post;"), (0, .fieldref 8 26), (0, .nameAndType 27 24), (0, u "last"), (0, .fieldref 8 29), (0, .nameAndType 30 31), (0, u "count"), (0, u "I"), (0, .fieldref 11 33), (0, .nameAndType 34 24), (0, u "following"), (0, .fieldref 11 36), (0, .nameAndType 37 24), (0, u "previous"), (0, .fieldref 11 39), (0, .nameAndType 40 41), (0, u "chain"), (0, u "Lcom/example/slot3/slot3/frame/PostChain;"), (0, .class_ 43), (0, u "com/example/slot3/slot3/frame/PostChainUnlinkPinLaw"), (2, u "law"), (0, u "(II)Z")] 3

def k1m0 : Method := { name := "<init>", desc := "()V", sig := { parameters := [], returnType := none }, accessFlags := 1, code := none }
def k1c1 : Code := { maxStack := 2, maxLocals := 14, code := code, exceptionTable := #[], attributes := #[] }
def k1m1 : Method := { name := "law", desc := "(II)Z", sig := { parameters := [.int, .int], returnType := some .boolean }, accessFlags := 9, code := some k1c1 }
/-- com/example/slot3/slot3/frame/PostChainUnlinkPinLaw -/
def k1 : Class := { plain "com/example/slot3/slot3/frame/PostChainUnlinkPinLaw" (some 0) with
  accessFlags := 49
  interfaces := #[]
  cf := some (fileOf pool1 42 #[] #[{ accessFlags := 1, nameIndex := 5, descriptorIndex := 6, attributes := #[] }, { accessFlags := 9, nameIndex := 46, descriptorIndex := 47, attributes := #[] }] 49 2 #[] #[])
  fields := #[]
  methods := #[k1m0, k1m1]
  instanceTypes := #[]
  staticTypes := #[]
  resolved := Array.replicate 51 none
  statics := none }

def pool2 : Array CpInfo := pool [(1, .methodref 2 3), (0, .class_ 4), (0, .nameAndType 5 6), (0, u "java/lang/Object"), (0, u "<init>"), (0, u "()V"), (0, .fieldref 8 9), (0, .class_ 10), (0, .nameAndType 11 12), (0, u "com/example/slot3/slot3/frame/PostChain"), (0, u "first"), (0, u "Lcom/example/slot3/slot3/frame/Post;"), (0, .fieldref 8 14), (0, .nameAndType 15 12), (0, u "last"), (0, .fieldref 17 18), (0, .class_ 19), (0, .nameAndType 20 12), (0, u "com/example/slot3/slot3/frame/Post"), (0, u "previous"), (0, .fieldref 17 22), (0, .nameAndType 23 12), (0, u "following"), (0, .fieldref 17 25), (0, .nameAndType 26 27), (0, u "chain"), (0, u "Lcom/example/slot3/slot3/frame/PostChain;"), (0, .fieldref 8 29), (0, .nameAndType 30 31), (0, u "count"), (0, u "I"), (2, u "unlink"), (0, u "(Lcom/example/slot3/slot3/frame/Post;)V"), (4, u "append")] 4

def k2c0 : Code := { maxStack := 1, maxLocals := 1, code := prog_11_method_1_code, exceptionTable := #[], attributes := #[] }
def k2m0 : Method := { name := "<init>", desc := "()V", sig := { parameters := [], returnType := none }, accessFlags := 0, code := some k2c0 }
def k2c1 : Code := { maxStack := 3, maxLocals := 2, code := prog_11_method_3_code, exceptionTable := #[], attributes := #[] }
def k2m1 : Method := { name := "append", desc := "(Lcom/example/slot3/slot3/frame/Post;)V", sig := { parameters := [(.object "com/example/slot3/slot3/frame/Post")], returnType := none }, accessFlags := 0, code := some k2c1 }
def k2c2 : Code := { maxStack := 3, maxLocals := 4, code := prog_11_method_5_code, exceptionTable := #[], attributes := #[] }
def k2m2 : Method := { name := "unlink", desc := "(Lcom/example/slot3/slot3/frame/Post;)V", sig := { parameters := [(.object "com/example/slot3/slot3/frame/Post")], returnType := none }, accessFlags := 0, code := some k2c2 }
/-- com/example/slot3/slot3/frame/PostChain -/
def k2 : Class := { plain "com/example/slot3/slot3/frame/PostChain" (some 0) with
  accessFlags := 32
  interfaces := #[]
  cf := some (fileOf pool2 8 #[] #[{ accessFlags := 0, nameIndex := 5, descriptorIndex := 6, attributes := #[] }, { accessFlags := 0, nameIndex := 40, descriptorIndex := 35, attributes := #[] }, { accessFlags := 0, nameIndex := 34, descriptorIndex := 35, attributes := #[] }] 32 2 #[] #[{ accessFlags := 0, nameIndex := 11, descriptorIndex := 12, attributes := #[] }, { accessFlags := 0, nameIndex := 15, descriptorIndex := 12, attributes := #[] }, { accessFlags := 0, nameIndex := 30, descriptorIndex := 31, attributes := #[] }])
  fields := #[{ name := "first", type := (.object "com/example/slot3/slot3/frame/Post"), accessFlags := 0, slot := 0, constantValue := 0 }, { name := "last", type := (.object "com/example/slot3/slot3/frame/Post"), accessFlags := 0, slot := 1, constantValue := 0 }, { name := "count", type := .int, accessFlags := 0, slot := 2, constantValue := 0 }]
  methods := #[k2m0, k2m1, k2m2]
  instanceTypes := #[(.object "com/example/slot3/slot3/frame/Post"), (.object "com/example/slot3/slot3/frame/Post"), .int]
  staticTypes := #[]
  resolved := Array.replicate 45 none
  statics := none }

def pool3 : Array CpInfo := pool [(1, .methodref 2 3), (0, .class_ 4), (0, .nameAndType 5 6), (0, u "java/lang/Object"), (0, u "<init>"), (0, u "()V"), (1, .class_ 10), (1, u "com/example/slot3/slot3/frame/Post"), (0, u "task"), (0, u "Ljava/lang/Runnable;"), (2, u "callback"), (0, u "Lcom/example/slot3/slot3/frame/FrameCallback;"), (2, u "actionHash"), (0, u "I"), (2, u "token"), (0, u "Ljava/lang/Object;"), (8, u "tokenHash"), (2, u "due"), (0, u "J"), (2, u "delayed"), (0, u "Z"), (2, u "sequence"), (2, u "nextWithAction"), (0, u "Lcom/example/slot3/slot3/frame/Post;"), (4, u "nextWithToken"), (2, u "nextWithBoth"), (2, u "previousWithAction"), (2, u "previousWithToken"), (2, u "previousWithBoth"), (0, u "id"), (0, u "queue"), (0, u "Lcom/example/slot3/slot3/frame/CallbackQueue;"), (0, u "chain"), (0, u "Lcom/example/slot3/slot3/frame/PostChain;"), (0, u "following"), (0, u "previous"), (0, u "heapIndex")] 18

def k3c0 : Code := { maxStack := 1, maxLocals := 1, code := prog_10_method_1_code, exceptionTable := #[], attributes := #[] }
def k3m0 : Method := { name := "<init>", desc := "()V", sig := { parameters := [], returnType := none }, accessFlags := 0, code := some k3c0 }
/-- com/example/slot3/slot3/frame/Post -/
def k3 : Class := { plain "com/example/slot3/slot3/frame/Post" (some 0) with
  accessFlags := 32
  interfaces := #[]
  cf := some (fileOf pool3 8 #[] #[{ accessFlags := 0, nameIndex := 5, descriptorIndex := 6, attributes := #[] }] 32 2 #[] #[{ accessFlags := 0, nameIndex := 66, descriptorIndex := 20, attributes := #[] }, { accessFlags := 0, nameIndex := 67, descriptorIndex := 68, attributes := #[] }, { accessFlags := 0, nameIndex := 11, descriptorIndex := 12, attributes := #[] }, { accessFlags := 0, nameIndex := 15, descriptorIndex := 16, attributes := #[] }, { accessFlags := 0, nameIndex := 23, descriptorIndex := 24, attributes := #[] }, { accessFlags := 0, nameIndex := 19, descriptorIndex := 20, attributes := #[] }, { accessFlags := 0, nameIndex := 33, descriptorIndex := 20, attributes := #[] }, { accessFlags := 0, nameIndex := 36, descriptorIndex := 37, attributes := #[] }, { accessFlags := 0, nameIndex := 40, descriptorIndex := 41, attributes := #[] }, { accessFlags := 0, nameIndex := 44, descriptorIndex := 37, attributes := #[] }, { accessFlags := 0, nameIndex := 69, descriptorIndex := 70, attributes := #[] }, { accessFlags := 0, nameIndex := 71, descriptorIndex := 48, attributes := #[] }, { accessFlags := 0, nameIndex := 72, descriptorIndex := 48, attributes := #[] }, { accessFlags := 0, nameIndex := 73, descriptorIndex := 20, attributes := #[] }, { accessFlags := 2, nameIndex := 47, descriptorIndex := 48, attributes := #[] }, { accessFlags := 2, nameIndex := 59, descriptorIndex := 48, attributes := #[] }, { accessFlags := 2, nameIndex := 53, descriptorIndex := 48, attributes := #[] }, { accessFlags := 2, nameIndex := 62, descriptorIndex := 48, attributes := #[] }, { accessFlags := 2, nameIndex := 56, descriptorIndex := 48, attributes := #[] }, { accessFlags := 2, nameIndex := 65, descriptorIndex := 48, attributes := #[] }])
  fields := #[{ name := "id", type := .int, accessFlags := 0, slot := 0, constantValue := 0 }, { name := "queue", type := (.object "com/example/slot3/slot3/frame/CallbackQueue"), accessFlags := 0, slot := 1, constantValue := 0 }, { name := "task", type := (.object "java/lang/Runnable"), accessFlags := 0, slot := 2, constantValue := 0 }, { name := "callback", type := (.object "com/example/slot3/slot3/frame/FrameCallback"), accessFlags := 0, slot := 3, constantValue := 0 }, { name := "token", type := (.object "java/lang/Object"), accessFlags := 0, slot := 4, constantValue := 0 }, { name := "actionHash", type := .int, accessFlags := 0, slot := 5, constantValue := 0 }, { name := "tokenHash", type := .int, accessFlags := 0, slot := 6, constantValue := 0 }, { name := "due", type := .long, accessFlags := 0, slot := 7, constantValue := 0 }, { name := "delayed", type := .boolean, accessFlags := 0, slot := 8, constantValue := 0 }, { name := "sequence", type := .long, accessFlags := 0, slot := 9, constantValue := 0 }, { name := "chain", type := (.object "com/example/slot3/slot3/frame/PostChain"), accessFlags := 0, slot := 10, constantValue := 0 }, { name := "following", type := (.object "com/example/slot3/slot3/frame/Post"), accessFlags := 0, slot := 11, constantValue := 0 }, { name := "previous", type := (.object "com/example/slot3/slot3/frame/Post"), accessFlags := 0, slot := 12, constantValue := 0 }, { name := "heapIndex", type := .int, accessFlags := 0, slot := 13, constantValue := 0 }, { name := "nextWithAction", type := (.object "com/example/slot3/slot3/frame/Post"), accessFlags := 2, slot := 14, constantValue := 0 }, { name := "previousWithAction", type := (.object "com/example/slot3/slot3/frame/Post"), accessFlags := 2, slot := 15, constantValue := 0 }, { name := "nextWithToken", type := (.object "com/example/slot3/slot3/frame/Post"), accessFlags := 2, slot := 16, constantValue := 0 }, { name := "previousWithToken", type := (.object "com/example/slot3/slot3/frame/Post"), accessFlags := 2, slot := 17, constantValue := 0 }, { name := "nextWithBoth", type := (.object "com/example/slot3/slot3/frame/Post"), accessFlags := 2, slot := 18, constantValue := 0 }, { name := "previousWithBoth", type := (.object "com/example/slot3/slot3/frame/Post"), accessFlags := 2, slot := 19, constantValue := 0 }]
  methods := #[k3m0]
  instanceTypes := #[.int, (.object "com/example/slot3/slot3/frame/CallbackQueue"), (.object "java/lang/Runnable"), (.object "com/example/slot3/slot3/frame/FrameCallback"), (.object "java/lang/Object"), .int, .int, .long, .boolean, .long, (.object "com/example/slot3/slot3/frame/PostChain"), (.object "com/example/slot3/slot3/frame/Post"), (.object "com/example/slot3/slot3/frame/Post"), .int, (.object "com/example/slot3/slot3/frame/Post"), (.object "com/example/slot3/slot3/frame/Post"), (.object "com/example/slot3/slot3/frame/Post"), (.object "com/example/slot3/slot3/frame/Post"), (.object "com/example/slot3/slot3/frame/Post"), (.object "com/example/slot3/slot3/frame/Post")]
  staticTypes := #[]
  resolved := Array.replicate 92 none
  statics := none }

def pool4 : Array CpInfo := pool [(1, u "java/lang/Cloneable"), (0, .class_ 1), (0, u "java/lang/Object"), (0, .class_ 3)] 3

/-- java/lang/Cloneable -/
def k4 : Class := { plain "java/lang/Cloneable" (some 0) with
  accessFlags := 1537
  interfaces := #[]
  cf := some (fileOf pool4 2 #[] #[] 1537 4 #[] #[])
  fields := #[]
  methods := #[]
  instanceTypes := #[]
  staticTypes := #[]
  resolved := Array.replicate 8 none
  statics := none }

def pool5 : Array CpInfo := pool [(1, u "java/io/Serializable"), (0, .class_ 1), (0, u "java/lang/Object"), (0, .class_ 3)] 3

/-- java/io/Serializable -/
def k5 : Class := { plain "java/io/Serializable" (some 0) with
  accessFlags := 1537
  interfaces := #[]
  cf := some (fileOf pool5 2 #[] #[] 1537 4 #[] #[])
  fields := #[]
  methods := #[]
  instanceTypes := #[]
  staticTypes := #[]
  resolved := Array.replicate 8 none
  statics := none }

/-- the primitive byte -/
def k6 : Class := { plain "byte" none with kind := .primitive 'B', accessFlags := 0x411 }
/-- [B -/
def k7 : Class := { plain "[B" (some 0) with kind := .array 6 .byte, interfaces := #[4, 5], accessFlags := 1041 }

/-- the primitive int -/
def k8 : Class := { plain "int" none with kind := .primitive 'I', accessFlags := 0x411 }
/-- [I -/
def k9 : Class := { plain "[I" (some 0) with kind := .array 8 .int, interfaces := #[4, 5], accessFlags := 1041 }

def heap : Heap := #[]
def classes : Array Class := #[k0, k1, k2, k3, k4, k5, k6, k7, k8, k9]
def interned : List (Array UInt16 × Addr) := []
def slotsUsed : Nat := 0
def theMethod : MethodId := ⟨1, 1⟩
def args0 : Array Value := #[.int 5, .int 6]
def aboutOver (below : List Frame) : State where
  vm := { classes := classes, interned := interned.toArray }
  heap := heap
  slotsUsed := slotsUsed
  threads := #[{ frames := .invoking theMethod args0 :: below }]
def below0 : List Frame := [.native { method := ⟨0, 0⟩, args := #[] }]
def about1 : State := aboutOver below0
def p0 : Program := .bare "" "" ""
def e0 : Env := launch0.env 0 0 0
theorem w_frames : about1.frames = Frame.invoking theMethod args0 :: below0 := rfl
set_option maxRecDepth 65536 in
theorem w_args : argsFit about1.vm theMethod args0 = true := by decide +kernel
set_option maxRecDepth 65536 in
theorem w_heap : heapFits about1 = true := by decide +kernel
set_option maxRecDepth 65536 in
theorem w_runnable : about1.curStatus? = some .runnable := by decide +kernel
set_option maxRecDepth 65536 in
theorem w_alone : about1.alone = true := by decide +kernel
set_option maxRecDepth 65536 in
theorem w_named : about1.methodNamed? x = some theMethod := by decide +kernel
set_option maxRecDepth 65536 in
theorem w_hears : about1.hears theMethod below0 = true := by decide +kernel
set_option maxRecDepth 65536 in
theorem w_ripe : about1.ripe theMethod args0 below0 = true := by decide +kernel
theorem w_running : about1.status = .running := rfl
set_option maxRecDepth 65536 in
theorem w_room : about1.hasRoom e0.platform room_1 = true :=
  launch0.hasRoom_least _ room_1 (by decide +kernel) (by decide +kernel) (by decide +kernel) (by decide +kernel) (by decide +kernel) (by decide +kernel)
theorem allAtoms_all (ts : List Jvm.Cond) (a : Array Jvm.Value) (st : Jvm.State) : (allAtoms ts).before a st = ts.all (fun c => c.before a st) := by
  induction ts with
  | nil => rfl
  | cons c t ih =>
    show (Jvm.Cond.and c (allAtoms t)).before a st = _
    rw [Jvm.Cond.before_and, ih, List.all_cons]
def words1 : List Jvm.Cond := Jvm.Cond.code x code maxLocals ret :: tables_1
/-- a 'code' word, met by the world's own term for the bytes: nothing is compared byte by byte -/
theorem code_word {y : MethodName} {bytes : ByteArray} {mx : Nat} {rt : Option FieldType} {a : Array Value} {s : State} {m : MethodId} {meth : Method} {c : Code} (h1 : s.methodNamed? y = some m) (h2 : s.vm.method? m = some meth) (h3 : meth.code = some c) (h4 : c.code = bytes)
    (h5 : (c.maxLocals == mx && c.exceptionTable.isEmpty && decide (c.maxStack ≤ mostOperands) && decide (meth.sig.returnType = rt) && !meth.locks && decide (parseMethodDescriptor y.desc = some meth.sig)) = true) : (Jvm.Cond.code y bytes mx rt).before a s = true := by
  simp only [Bool.and_eq_true, beq_iff_eq, Bool.not_eq_true', decide_eq_true_eq] at h5
  obtain ⟨⟨⟨⟨⟨g1, g2⟩, g3⟩, g4⟩, g5⟩, g6⟩ := h5
  simp [Cond.before, Cond.holds, Cond.value, h1, h2, h3, h4, g1, g2, g3, g4, g5, g6]
def isCode : Jvm.Cond → Bool
  | .code _ _ _ _ => true
  | _ => false
theorem all_split {L : List Jvm.Cond} {P : Jvm.Cond → Bool} (h1 : L.all (fun c => isCode c || P c) = true) (h2 : ∀ c ∈ L.filter isCode, P c = true) : L.all P = true := by
  refine List.all_eq_true.mpr fun c hc => ?_
  have h := List.all_eq_true.mp h1 c hc
  rcases Bool.eq_false_or_eq_true (isCode c) with hi | hi
  · exact h2 c (List.mem_filter.mpr ⟨hc, hi⟩)
  · simpa [hi] using h
set_option maxRecDepth 65536 in
theorem w_c0 : (Jvm.Cond.code x code maxLocals ret).before args0 about1 = true := code_word (m := ⟨1, 1⟩) (meth := k1m1) (c := k1c1) (by decide +kernel) rfl rfl rfl (by decide +kernel)
set_option maxRecDepth 65536 in
theorem w_c1 : (Jvm.Cond.code ({ cls := "com/example/slot3/slot3/frame/PostChain", name := "<init>", desc := "()V" } : Jvm.MethodName) prog_11_method_1_code (1 : Nat) (Option.none : Option Jvm.ClassFile.FieldType)).before args0 about1 = true := code_word (m := ⟨2, 0⟩) (meth := k2m0) (c := k2c0) (by decide +kernel) rfl rfl rfl (by decide +kernel)
set_option maxRecDepth 65536 in
theorem w_c2 : (Jvm.Cond.code ({ cls := "java/lang/Object", name := "<init>", desc := "()V" } : Jvm.MethodName) object_method_1_code (1 : Nat) (Option.none : Option Jvm.ClassFile.FieldType)).before args0 about1 = true := code_word (m := ⟨0, 0⟩) (meth := k0m0) (c := k0c0) (by decide +kernel) rfl rfl rfl (by decide +kernel)
set_option maxRecDepth 65536 in
theorem w_c3 : (Jvm.Cond.code ({ cls := "com/example/slot3/slot3/frame/Post", name := "<init>", desc := "()V" } : Jvm.MethodName) prog_10_method_1_code (1 : Nat) (Option.none : Option Jvm.ClassFile.FieldType)).before args0 about1 = true := code_word (m := ⟨3, 0⟩) (meth := k3m0) (c := k3c0) (by decide +kernel) rfl rfl rfl (by decide +kernel)
set_option maxRecDepth 65536 in
theorem w_c4 : (Jvm.Cond.code ({ cls := "com/example/slot3/slot3/frame/PostChain", name := "append", desc := "(Lcom/example/slot3/slot3/frame/Post;)V" } : Jvm.MethodName) prog_11_method_3_code (2 : Nat) (Option.none : Option Jvm.ClassFile.FieldType)).before args0 about1 = true := code_word (m := ⟨2, 1⟩) (meth := k2m1) (c := k2c1) (by decide +kernel) rfl rfl rfl (by decide +kernel)
set_option maxRecDepth 65536 in
theorem w_c5 : (Jvm.Cond.code ({ cls := "com/example/slot3/slot3/frame/PostChain", name := "unlink", desc := "(Lcom/example/slot3/slot3/frame/Post;)V" } : Jvm.MethodName) prog_11_method_5_code (4 : Nat) (Option.none : Option Jvm.ClassFile.FieldType)).before args0 about1 = true := code_word (m := ⟨2, 2⟩) (meth := k2m2) (c := k2c2) (by decide +kernel) rfl rfl rfl (by decide +kernel)
def codes1 : List Jvm.Cond := [Jvm.Cond.code x code maxLocals ret, Jvm.Cond.code ({ cls := "com/example/slot3/slot3/frame/PostChain", name := "<init>", desc := "()V" } : Jvm.MethodName) prog_11_method_1_code (1 : Nat) (Option.none : Option Jvm.ClassFile.FieldType), Jvm.Cond.code ({ cls := "java/lang/Object", name := "<init>", desc := "()V" } : Jvm.MethodName) object_method_1_code (1 : Nat) (Option.none : Option Jvm.ClassFile.FieldType), Jvm.Cond.code ({ cls := "com/example/slot3/slot3/frame/Post", name := "<init>", desc := "()V" } : Jvm.MethodName) prog_10_method_1_code (1 : Nat) (Option.none : Option Jvm.ClassFile.FieldType), Jvm.Cond.code ({ cls := "com/example/slot3/slot3/frame/PostChain", name := "append", desc := "(Lcom/example/slot3/slot3/frame/Post;)V" } : Jvm.MethodName) prog_11_method_3_code (2 : Nat) (Option.none : Option Jvm.ClassFile.FieldType), Jvm.Cond.code ({ cls := "com/example/slot3/slot3/frame/PostChain", name := "unlink", desc := "(Lcom/example/slot3/slot3/frame/Post;)V" } : Jvm.MethodName) prog_11_method_5_code (4 : Nat) (Option.none : Option Jvm.ClassFile.FieldType)]
set_option maxRecDepth 65536 in
theorem codes_eq : words1.filter isCode = codes1 := rfl
theorem w_codes : ∀ c ∈ words1.filter isCode, c.before args0 about1 = true := by
  rw [codes_eq]
  intro c hc
  simp only [codes1, List.mem_cons, List.not_mem_nil, or_false] at hc
  rcases hc with rfl | rfl | rfl | rfl | rfl | rfl
  · exact w_c0
  · exact w_c1
  · exact w_c2
  · exact w_c3
  · exact w_c4
  · exact w_c5
set_option maxRecDepth 65536 in
theorem w_t1 : (words1.take 24).all (fun c => isCode c || c.before args0 about1) = true := by decide +kernel
set_option maxRecDepth 65536 in
theorem w_t2 : (words1.drop 24).all (fun c => isCode c || c.before args0 about1) = true := by decide +kernel
theorem w_tables : (allAtoms (Jvm.Cond.code x code maxLocals ret :: tables_1)).before args0 about1 = true := by
  rw [allAtoms_all]
  show words1.all (fun c => c.before args0 about1) = true
  refine all_split ?_ w_codes
  rw [← List.take_append_drop 24 words1, List.all_append, w_t1, w_t2]
  rfl
set_option maxRecDepth 65536 in
theorem w_case : (Jvm.Cond.and given_1 narrow_1).before args0 about1 = true := by decide +kernel
theorem w_applies : (headSpec (Jvm.Cond.code x code maxLocals ret :: tables_1) room_1).applies x e0.platform about1 = true :=
  (Spec.applies_iff w_frames).mpr ⟨w_running, w_runnable, w_alone, w_named, w_hears, w_ripe, w_room, w_tables⟩
theorem atStart : AtStart classFile x code maxLocals ret World_1 tables_1 room_1 Calls_1 rest_1 Pre_1 launch0 p0 e0 about1 theMethod args0 below0 :=
  ⟨lists_1, trivial, launch0.admits_env _ _ _, launch0.least_env, fairChoices_fair.cas, fairChoices_fair.clock, w_frames, w_args, w_heap, w_applies, trivial, trivial, w_case⟩
end start1
theorem witness_1 : WitnessClaimed_1 := ⟨start1.p0, start1.e0, start1.about1, start1.theMethod, start1.args0, start1.below0, start1.atStart⟩
end Jvm.Pilot.@@N@@
