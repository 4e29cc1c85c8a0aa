import JvmDerived
import JvmDerived.Pilot.@@N@@Statement
import JvmDerived.Pilot.@@N@@Code
set_option linter.unusedVariables false
set_option linter.unusedSimpArgs false
namespace Jvm.Pilot.@@N@@
open Jvm Jvm.ClassFile Sem Op Lib Jvm.Free Jvm.Stand Jvm.LawKit Jvm.RoadKit Bundle Jvm.Pilot.@@N@@.Jvm.D
section OwnHead
variable {p : Program} {l : Launch} {e : Env} {R : Room} {s : State} {m : MethodId} {args : Array Value} {below : List Frame} {meth : Method} {c : Code} {T : State} {locs : List Loc} {cells slots : Nat} {Z : State} {a0 : Array Value} {h : Heap} {Q : Option Value → Heap → List Loc → Prop} {ce sl : Nat} {pc pc' : Nat} {Ls : Array Slot} {st : List Value}
def own_G (p : Program) (e : Env) (below : List Frame) (s : State) (Q : Option Value → Heap → List Loc → Prop) (ce sl : Nat) (S : State) : Prop := ∃ s₂ o, Steps p.tables e below S s₂ ∧ s₂.status = .running ∧ Ended s₂ below o ∧ ∃ v L, o = .returned v ∧ Q v s₂.heap L ∧ FrameEnd s o s₂ L ce sl
theorem own_fw {S S' : State} (h : ∀ t, Steps p.tables e below S' t → Steps p.tables e below S t) (g : own_G p e below s Q ce sl S') : own_G p e below s Q ce sl S := by
  obtain ⟨s₂, o, h1, r⟩ := g; exact ⟨s₂, o, h _ h1, r⟩
theorem own_via {S S' : State} (h : own_G p e below s Q ce sl S' → own_G p e below s Q ce sl S) (g : own_G p e below s Q ce sl S') : own_G p e below s Q ce sl S := h g
theorem own_cast {S S' : State} (h : S = S') (g : own_G p e below s Q ce sl S') : own_G p e below s Q ce sl S := h ▸ g
abbrev own_M (l : Launch) (Z : State) (y : MethodName) (bytes : ByteArray) (maxL : Nat) (ret : Option FieldType) (ws : List Jvm.Cond) (rm : Room) (as' : Array Value) (h0 : Heap) (Q : Option Value → Heap → List Loc → Prop) (ce sl : Nat) : Prop := MetFree l y (head1 (Jvm.Cond.code y bytes maxL ret :: ws) rm) (fun a U => a = as' ∧ Z.Warmed39 U.vm ∧ U.heap = h0) (fun _ _ _ _ _ => True) (fun _ U o U' => ∃ v L, o = .returned v ∧ Q v U'.heap L ∧ FrameEnd U o U' L ce sl)
theorem own_body {y : MethodName} {bytes : ByteArray} {maxL : Nat} {ret : Option FieldType} {ws : List Jvm.Cond} {rm : Room} {as' : Array Value} {h0 : Heap} (hp : plainFor y = true)
    (body : ∀ (p : Program) (e : Env) (s : State) (m : MethodId) (below : List Frame) (meth : Method) (c : Code) (s₁ : State), p.tables.exec = Jvm.exec → c.code = bytes → c.maxLocals = maxL → s.vm.findClass y.cls = some m.cls → meth.name = y.name → meth.sig.returnType = ret → meth.locks = false → Z.Warmed39 s.vm → Stand p l e rm s m as' below meth c s₁ [] 0 0 → s₁.heap = h0 → own_G p e below s Q ce sl (s₁.setTop (entryFrame m as' maxL))) : own_M l Z y bytes maxL ret ws rm as' h0 Q ce sl := by
  refine MetFree.of_bodySF hp hisR ?_
  intro p e s m args below meth c s₁ Bd hml hP hK
  obtain ⟨rfl, hZ, hh⟩ := hP
  exact body p e s m below meth c s₁ Bd.exec Bd.bytes hml (findClass_of_methodNamed Bd.named) (name_of_methodNamed Bd.named Bd.method).1 Bd.returns Bd.notSynchronized hZ (Stand.of_body Bd) (by rw [← hh, Bd.state]; rfl)
theorem own_ret (X : Stand p l e R s m args below meth c T locs cells slots) (hx : p.tables.exec = Jvm.exec) {w : Value} {t : FieldType} {i : Instr} (hret : meth.sig.returnType = some t) (hlk : meth.locks = false) (hn : narrow t w = w)
    (hi : (i = .ireturn ∧ (t = .int ∨ t = .boolean ∨ t = .byte ∨ t = .char ∨ t = .short) ∧ ∃ z, w = .int z) ∨ (i = .lreturn ∧ t = .long ∧ ∃ z, w = .long z) ∨ (i = .dreturn ∧ t = .double ∧ ∃ z, w = .double z) ∨ (i = .freturn ∧ t = .float ∧ ∃ z, w = .float z) ∨ (i = .areturn ∧ t.isReference = true ∧ w.isRef = true))
    (hd : decode c.code pc = .ok (i, 1)) (hQ : Q (some w) T.heap locs) (hce : cells ≤ ce) (hsl : slots ≤ sl) : own_G p e below s Q ce sl (T.setTop (mkF m pc Ls (w :: st))) := by
  obtain ⟨fs, hr, hrun, hended, hW, hsame⟩ := X.leave (v := some w) (fun h => by rw [hret] at h; cases h) hlk
  exact ⟨_, _, retOut X hx hret hn hi hd hr, hrun, hended, _, _, rfl, hQ, ⟨_, rfl⟩, hW, hsame.mono hce hsl⟩
theorem own_retI (X : Stand p l e R s m args below meth c T locs cells slots) (hx : p.tables.exec = Jvm.exec) {z : Int32} (hret : meth.sig.returnType = some .int) (hlk : meth.locks = false) (hd : decode c.code pc = .ok (.ireturn, 1)) (hQ : Q (some (.int z)) T.heap locs) (hce : cells ≤ ce) (hsl : slots ≤ sl) : own_G p e below s Q ce sl (T.setTop (mkF m pc Ls (.int z :: st))) := own_ret X hx hret hlk rfl (Or.inl ⟨rfl, Or.inl rfl, z, rfl⟩) hd hQ hce hsl
theorem own_retZ (X : Stand p l e R s m args below meth c T locs cells slots) (hx : p.tables.exec = Jvm.exec) {z : Int32} (hret : meth.sig.returnType = some .boolean) (hlk : meth.locks = false) (hz : z = 0 ∨ z = 1) (hd : decode c.code pc = .ok (.ireturn, 1)) (hQ : Q (some (.int z)) T.heap locs) (hce : cells ≤ ce) (hsl : slots ≤ sl) : own_G p e below s Q ce sl (T.setTop (mkF m pc Ls (.int z :: st))) := own_ret X hx hret hlk (by rcases hz with rfl | rfl <;> rfl) (Or.inl ⟨rfl, Or.inr (Or.inl rfl), z, rfl⟩) hd hQ hce hsl
theorem own_retB (X : Stand p l e R s m args below meth c T locs cells slots) (hx : p.tables.exec = Jvm.exec) {z : Int32} (hret : meth.sig.returnType = some .byte) (hlk : meth.locks = false) (hz : narrow .byte (.int z) = .int z) (hd : decode c.code pc = .ok (.ireturn, 1)) (hQ : Q (some (.int z)) T.heap locs) (hce : cells ≤ ce) (hsl : slots ≤ sl) : own_G p e below s Q ce sl (T.setTop (mkF m pc Ls (.int z :: st))) := own_ret X hx hret hlk hz (Or.inl ⟨rfl, Or.inr (Or.inr (Or.inl rfl)), z, rfl⟩) hd hQ hce hsl
theorem own_retL (X : Stand p l e R s m args below meth c T locs cells slots) (hx : p.tables.exec = Jvm.exec) {z : Int64} (hret : meth.sig.returnType = some .long) (hlk : meth.locks = false) (hd : decode c.code pc = .ok (.lreturn, 1)) (hQ : Q (some (.long z)) T.heap locs) (hce : cells ≤ ce) (hsl : slots ≤ sl) : own_G p e below s Q ce sl (T.setTop (mkF m pc Ls (.long z :: st))) := own_ret X hx hret hlk rfl (Or.inr (Or.inl ⟨rfl, rfl, z, rfl⟩)) hd hQ hce hsl
theorem own_retA (X : Stand p l e R s m args below meth c T locs cells slots) (hx : p.tables.exec = Jvm.exec) {v : Value} {t : FieldType} (hret : meth.sig.returnType = some t) (hlk : meth.locks = false) (ht : t.isReference = true) (hn : narrow t v = v) (hv : v.isRef = true) (hd : decode c.code pc = .ok (.areturn, 1)) (hQ : Q (some v) T.heap locs) (hce : cells ≤ ce) (hsl : slots ≤ sl) : own_G p e below s Q ce sl (T.setTop (mkF m pc Ls (v :: st))) := own_ret X hx hret hlk hn (Or.inr (Or.inr (Or.inr (Or.inr ⟨rfl, ht, hv⟩)))) hd hQ hce hsl
theorem own_retV (X : Stand p l e R s m args below meth c T locs cells slots) (hx : p.tables.exec = Jvm.exec) (hret : meth.sig.returnType = none) (hlk : meth.locks = false) (hd : decode c.code pc = .ok (.return_, 1)) (hQ : Q none T.heap locs) (hce : cells ≤ ce) (hsl : slots ≤ sl) : own_G p e below s Q ce sl (T.setTop (mkF m pc Ls [])) := by
  obtain ⟨fs, hr, hrun, hended, hW, hsame⟩ := X.leave (v := none) (fun _ => rfl) hlk
  exact ⟨_, _, X.returnOut hx hret hd hr, hrun, hended, _, _, rfl, hQ, ⟨_, rfl⟩, hW, hsame.mono hce hsl⟩
theorem own_iloadN {i : Fin 4} {v : Int32} (X : Stand p l e R s m args below meth c T locs cells slots) (hx : p.tables.exec = Jvm.exec) (hd : decode c.code pc = .ok (.iload_n i, 1)) (hl : Ls[i.val]? = some (.val (.int v))) (hp : pc + 1 = pc') (k : own_G p e below s Q ce sl (T.setTop (mkF m pc' Ls (.int v :: st)))) : own_G p e below s Q ce sl (T.setTop (mkF m pc Ls st)) := by
  subst hp; exact own_fw (fun t q => XS.iloadN X.here hx rfl hd hl q) k
theorem own_iload {i : Nat} {v : Int32} (X : Stand p l e R s m args below meth c T locs cells slots) (hx : p.tables.exec = Jvm.exec) (hd : decode c.code pc = .ok (.iload i, 2)) (hl : Ls[i]? = some (.val (.int v))) (hp : pc + 2 = pc') (k : own_G p e below s Q ce sl (T.setTop (mkF m pc' Ls (.int v :: st)))) : own_G p e below s Q ce sl (T.setTop (mkF m pc Ls st)) := by
  subst hp; exact own_fw (fun t q => XS.iload X.here hx rfl hd hl q) k
theorem own_lloadN {i : Fin 4} {v : Int64} (X : Stand p l e R s m args below meth c T locs cells slots) (hx : p.tables.exec = Jvm.exec) (hd : decode c.code pc = .ok (.lload_n i, 1)) (hl : Ls[i.val]? = some (.val (.long v))) (hp : pc + 1 = pc') (k : own_G p e below s Q ce sl (T.setTop (mkF m pc' Ls (.long v :: st)))) : own_G p e below s Q ce sl (T.setTop (mkF m pc Ls st)) := by
  subst hp; exact own_fw (fun t q => XS.lloadN X.here hx rfl hd hl q) k
theorem own_lload {i : Nat} {v : Int64} (X : Stand p l e R s m args below meth c T locs cells slots) (hx : p.tables.exec = Jvm.exec) (hd : decode c.code pc = .ok (.lload i, 2)) (hl : Ls[i]? = some (.val (.long v))) (hp : pc + 2 = pc') (k : own_G p e below s Q ce sl (T.setTop (mkF m pc' Ls (.long v :: st)))) : own_G p e below s Q ce sl (T.setTop (mkF m pc Ls st)) := by
  subst hp; exact own_fw (fun t q => XS.lload X.here hx rfl hd hl q) k
theorem own_aloadN {i : Fin 4} {v : Value} (X : Stand p l e R s m args below meth c T locs cells slots) (hx : p.tables.exec = Jvm.exec) (hd : decode c.code pc = .ok (.aload_n i, 1)) (hl : Ls[i.val]? = some (.val v)) (hv : v.isRef = true) (hp : pc + 1 = pc') (k : own_G p e below s Q ce sl (T.setTop (mkF m pc' Ls (v :: st)))) : own_G p e below s Q ce sl (T.setTop (mkF m pc Ls st)) := by
  subst hp; exact own_fw (fun t q => XS.aloadN X.here hx rfl hd hl hv q) k
theorem own_aload {i : Nat} {v : Value} (X : Stand p l e R s m args below meth c T locs cells slots) (hx : p.tables.exec = Jvm.exec) (hd : decode c.code pc = .ok (.aload i, 2)) (hl : Ls[i]? = some (.val v)) (hv : v.isRef = true) (hp : pc + 2 = pc') (k : own_G p e below s Q ce sl (T.setTop (mkF m pc' Ls (v :: st)))) : own_G p e below s Q ce sl (T.setTop (mkF m pc Ls st)) := by
  subst hp; exact own_fw (fun t q => XS.aload X.here hx rfl hd hl hv q) k
theorem own_istoreN {i : Fin 4} {v : Int32} (X : Stand p l e R s m args below meth c T locs cells slots) (hx : p.tables.exec = Jvm.exec) (hd : decode c.code pc = .ok (.istore_n i, 1)) {l' : Array Slot} (hl : storeLocals Ls i.val (.int v) = some l') (hp : pc + 1 = pc') (k : own_G p e below s Q ce sl (T.setTop (mkF m pc' l' st))) : own_G p e below s Q ce sl (T.setTop (mkF m pc Ls (.int v :: st))) := by
  subst hp; exact own_fw (fun t q => XS.istoreN X.here hx rfl hd rfl hl q) k
theorem own_istore {i : Nat} {v : Int32} (X : Stand p l e R s m args below meth c T locs cells slots) (hx : p.tables.exec = Jvm.exec) (hd : decode c.code pc = .ok (.istore i, 2)) {l' : Array Slot} (hl : storeLocals Ls i (.int v) = some l') (hp : pc + 2 = pc') (k : own_G p e below s Q ce sl (T.setTop (mkF m pc' l' st))) : own_G p e below s Q ce sl (T.setTop (mkF m pc Ls (.int v :: st))) := by
  subst hp; exact own_fw (fun t q => XS.istore X.here hx rfl hd rfl hl q) k
theorem own_lstoreN {i : Fin 4} {v : Int64} (X : Stand p l e R s m args below meth c T locs cells slots) (hx : p.tables.exec = Jvm.exec) (hd : decode c.code pc = .ok (.lstore_n i, 1)) {l' : Array Slot} (hl : storeLocals Ls i.val (.long v) = some l') (hp : pc + 1 = pc') (k : own_G p e below s Q ce sl (T.setTop (mkF m pc' l' st))) : own_G p e below s Q ce sl (T.setTop (mkF m pc Ls (.long v :: st))) := by
  subst hp; exact own_fw (fun t q => XS.lstoreN X.here hx rfl hd rfl hl q) k
theorem own_lstore {i : Nat} {v : Int64} (X : Stand p l e R s m args below meth c T locs cells slots) (hx : p.tables.exec = Jvm.exec) (hd : decode c.code pc = .ok (.lstore i, 2)) {l' : Array Slot} (hl : storeLocals Ls i (.long v) = some l') (hp : pc + 2 = pc') (k : own_G p e below s Q ce sl (T.setTop (mkF m pc' l' st))) : own_G p e below s Q ce sl (T.setTop (mkF m pc Ls (.long v :: st))) := by
  subst hp; exact own_fw (fun t q => XS.lstore X.here hx rfl hd rfl hl q) k
theorem own_astoreN {i : Fin 4} {v : Value} (X : Stand p l e R s m args below meth c T locs cells slots) (hx : p.tables.exec = Jvm.exec) (hd : decode c.code pc = .ok (.astore_n i, 1)) (hv : v.isRef = true) {l' : Array Slot} (hl : storeLocals Ls i.val v = some l') (hp : pc + 1 = pc') (k : own_G p e below s Q ce sl (T.setTop (mkF m pc' l' st))) : own_G p e below s Q ce sl (T.setTop (mkF m pc Ls (v :: st))) := by
  subst hp; exact own_fw (fun t q => XS.astoreN X.here hx rfl hd rfl hv hl q) k
theorem own_astore {i : Nat} {v : Value} (X : Stand p l e R s m args below meth c T locs cells slots) (hx : p.tables.exec = Jvm.exec) (hd : decode c.code pc = .ok (.astore i, 2)) (hv : v.isRef = true) {l' : Array Slot} (hl : storeLocals Ls i v = some l') (hp : pc + 2 = pc') (k : own_G p e below s Q ce sl (T.setTop (mkF m pc' l' st))) : own_G p e below s Q ce sl (T.setTop (mkF m pc Ls (v :: st))) := by
  subst hp; exact own_fw (fun t q => XS.astore X.here hx rfl hd rfl hv hl q) k
theorem own_iconst {i : Int} {z : Int32} (X : Stand p l e R s m args below meth c T locs cells slots) (hx : p.tables.exec = Jvm.exec) (hd : decode c.code pc = .ok (.iconst i, 1)) (hz : Int32.ofInt i = z) (hp : pc + 1 = pc') (k : own_G p e below s Q ce sl (T.setTop (mkF m pc' Ls (.int z :: st)))) : own_G p e below s Q ce sl (T.setTop (mkF m pc Ls st)) := by
  subst hp hz; exact own_fw (fun t q => XS.iconst X.here hx rfl hd q) k
theorem own_bipush {i : Int} {z : Int32} (X : Stand p l e R s m args below meth c T locs cells slots) (hx : p.tables.exec = Jvm.exec) (hd : decode c.code pc = .ok (.bipush i, 2)) (hz : (Int8.ofInt i).toInt32 = z) (hp : pc + 2 = pc') (k : own_G p e below s Q ce sl (T.setTop (mkF m pc' Ls (.int z :: st)))) : own_G p e below s Q ce sl (T.setTop (mkF m pc Ls st)) := by
  subst hp hz; exact own_fw (fun t q => XS.bipush X.here hx rfl hd q) k
theorem own_sipush {i : Int} {z : Int32} (X : Stand p l e R s m args below meth c T locs cells slots) (hx : p.tables.exec = Jvm.exec) (hd : decode c.code pc = .ok (.sipush i, 3)) (hz : (Int16.ofInt i).toInt32 = z) (hp : pc + 3 = pc') (k : own_G p e below s Q ce sl (T.setTop (mkF m pc' Ls (.int z :: st)))) : own_G p e below s Q ce sl (T.setTop (mkF m pc Ls st)) := by
  subst hp hz; exact own_fw (fun t q => XS.sipush X.here hx rfl hd q) k
theorem own_lconst {i : Fin 2} {z : Int64} (X : Stand p l e R s m args below meth c T locs cells slots) (hx : p.tables.exec = Jvm.exec) (hd : decode c.code pc = .ok (.lconst i, 1)) (hz : Int64.ofNat i = z) (hp : pc + 1 = pc') (k : own_G p e below s Q ce sl (T.setTop (mkF m pc' Ls (.long z :: st)))) : own_G p e below s Q ce sl (T.setTop (mkF m pc Ls st)) := by
  subst hp hz; exact own_fw (fun t q => XS.lconst X.here hx rfl hd q) k
theorem own_aconstNull (X : Stand p l e R s m args below meth c T locs cells slots) (hx : p.tables.exec = Jvm.exec) (hd : decode c.code pc = .ok (.aconst_null, 1)) (hp : pc + 1 = pc') (k : own_G p e below s Q ce sl (T.setTop (mkF m pc' Ls (.null :: st)))) : own_G p e below s Q ce sl (T.setTop (mkF m pc Ls st)) := by
  subst hp; exact own_fw (fun t q => XS.aconstNull X.here hx rfl hd q) k
theorem own_ldc (X : Stand p l e R s m args below meth c T locs cells slots) (hx : p.tables.exec = Jvm.exec) (hZ : Z.Warmed39 s.vm) {own : String} {index : Nat} {v : Int32} (hown : s.vm.findClass own = some m.cls) (w1 : (Jvm.Cond.constant own index v).before a0 Z = true) (hd : decode c.code pc = .ok (.ldc index, 2)) (hp : pc + 2 = pc') (k : own_G p e below s Q ce sl (T.setTop (mkF m pc' Ls (.int v :: st)))) : own_G p e below s Q ce sl (T.setTop (mkF m pc Ls st)) := by
  subst hp; exact own_fw (X.ldcInt hx hown (mvT hZ w1) (g := mkF m pc Ls st) rfl hd) k
theorem own_ldc2 (X : Stand p l e R s m args below meth c T locs cells slots) (hx : p.tables.exec = Jvm.exec) (hZ : Z.Warmed39 s.vm) {own : String} {index : Nat} {v : Int64} (hown : s.vm.findClass own = some m.cls) (w1 : (Jvm.Cond.constantLong own index v).before a0 Z = true) (hd : decode c.code pc = .ok (.ldc2_w index, 3)) (hp : pc + 3 = pc') (k : own_G p e below s Q ce sl (T.setTop (mkF m pc' Ls (.long v :: st)))) : own_G p e below s Q ce sl (T.setTop (mkF m pc Ls st)) := by
  subst hp; exact own_fw (X.ldc2Long hx hown (mvT hZ w1) (g := mkF m pc Ls st) rfl hd) k
theorem own_iadd {x y : Int32} (X : Stand p l e R s m args below meth c T locs cells slots) (hx : p.tables.exec = Jvm.exec) (hd : decode c.code pc = .ok (.iadd, 1)) (hp : pc + 1 = pc') (k : own_G p e below s Q ce sl (T.setTop (mkF m pc' Ls (.int (x + y) :: st)))) : own_G p e below s Q ce sl (T.setTop (mkF m pc Ls (.int y :: .int x :: st))) := by
  subst hp; exact own_fw (fun t q => XS.iadd X.here hx rfl hd rfl q) k
theorem own_isub {x y : Int32} (X : Stand p l e R s m args below meth c T locs cells slots) (hx : p.tables.exec = Jvm.exec) (hd : decode c.code pc = .ok (.isub, 1)) (hp : pc + 1 = pc') (k : own_G p e below s Q ce sl (T.setTop (mkF m pc' Ls (.int (x - y) :: st)))) : own_G p e below s Q ce sl (T.setTop (mkF m pc Ls (.int y :: .int x :: st))) := by
  subst hp; exact own_fw (fun t q => XS.isub X.here hx rfl hd rfl q) k
theorem own_imul {x y : Int32} (X : Stand p l e R s m args below meth c T locs cells slots) (hx : p.tables.exec = Jvm.exec) (hd : decode c.code pc = .ok (.imul, 1)) (hp : pc + 1 = pc') (k : own_G p e below s Q ce sl (T.setTop (mkF m pc' Ls (.int (x * y) :: st)))) : own_G p e below s Q ce sl (T.setTop (mkF m pc Ls (.int y :: .int x :: st))) := by
  subst hp; exact own_fw (fun t q => XS.imul X.here hx rfl hd rfl q) k
theorem own_iand {x y : Int32} (X : Stand p l e R s m args below meth c T locs cells slots) (hx : p.tables.exec = Jvm.exec) (hd : decode c.code pc = .ok (.iand, 1)) (hp : pc + 1 = pc') (k : own_G p e below s Q ce sl (T.setTop (mkF m pc' Ls (.int (x &&& y) :: st)))) : own_G p e below s Q ce sl (T.setTop (mkF m pc Ls (.int y :: .int x :: st))) := by
  subst hp; exact own_fw (fun t q => XS.iand X.here hx rfl hd rfl q) k
theorem own_ior {x y : Int32} (X : Stand p l e R s m args below meth c T locs cells slots) (hx : p.tables.exec = Jvm.exec) (hd : decode c.code pc = .ok (.ior, 1)) (hp : pc + 1 = pc') (k : own_G p e below s Q ce sl (T.setTop (mkF m pc' Ls (.int (x ||| y) :: st)))) : own_G p e below s Q ce sl (T.setTop (mkF m pc Ls (.int y :: .int x :: st))) := by
  subst hp; exact own_fw (fun t q => XS.ior X.here hx rfl hd rfl q) k
theorem own_ixor {x y : Int32} (X : Stand p l e R s m args below meth c T locs cells slots) (hx : p.tables.exec = Jvm.exec) (hd : decode c.code pc = .ok (.ixor, 1)) (hp : pc + 1 = pc') (k : own_G p e below s Q ce sl (T.setTop (mkF m pc' Ls (.int (x ^^^ y) :: st)))) : own_G p e below s Q ce sl (T.setTop (mkF m pc Ls (.int y :: .int x :: st))) := by
  subst hp; exact own_fw (fun t q => XS.ixor X.here hx rfl hd rfl q) k
theorem own_ishl {x y : Int32} (X : Stand p l e R s m args below meth c T locs cells slots) (hx : p.tables.exec = Jvm.exec) (hd : decode c.code pc = .ok (.ishl, 1)) (hp : pc + 1 = pc') (k : own_G p e below s Q ce sl (T.setTop (mkF m pc' Ls (.int (x <<< (y &&& 31)) :: st)))) : own_G p e below s Q ce sl (T.setTop (mkF m pc Ls (.int y :: .int x :: st))) := by
  subst hp; exact own_fw (fun t q => XS.ishl X.here hx rfl hd rfl q) k
theorem own_ishr {x y : Int32} (X : Stand p l e R s m args below meth c T locs cells slots) (hx : p.tables.exec = Jvm.exec) (hd : decode c.code pc = .ok (.ishr, 1)) (hp : pc + 1 = pc') (k : own_G p e below s Q ce sl (T.setTop (mkF m pc' Ls (.int (x >>> (y &&& 31)) :: st)))) : own_G p e below s Q ce sl (T.setTop (mkF m pc Ls (.int y :: .int x :: st))) := by
  subst hp; exact own_fw (fun t q => XS.ishr X.here hx rfl hd rfl q) k
theorem own_iushr {x y : Int32} (X : Stand p l e R s m args below meth c T locs cells slots) (hx : p.tables.exec = Jvm.exec) (hd : decode c.code pc = .ok (.iushr, 1)) (hp : pc + 1 = pc') (k : own_G p e below s Q ce sl (T.setTop (mkF m pc' Ls (.int ((x.toUInt32 >>> (y &&& 31).toUInt32).toInt32) :: st)))) : own_G p e below s Q ce sl (T.setTop (mkF m pc Ls (.int y :: .int x :: st))) := by
  subst hp; exact own_fw (fun t q => XS.iushr X.here hx rfl hd rfl q) k
theorem own_ladd {x y : Int64} (X : Stand p l e R s m args below meth c T locs cells slots) (hx : p.tables.exec = Jvm.exec) (hd : decode c.code pc = .ok (.ladd, 1)) (hp : pc + 1 = pc') (k : own_G p e below s Q ce sl (T.setTop (mkF m pc' Ls (.long (x + y) :: st)))) : own_G p e below s Q ce sl (T.setTop (mkF m pc Ls (.long y :: .long x :: st))) := by
  subst hp; exact own_fw (fun t q => XS.ladd X.here hx rfl hd rfl q) k
theorem own_lsub {x y : Int64} (X : Stand p l e R s m args below meth c T locs cells slots) (hx : p.tables.exec = Jvm.exec) (hd : decode c.code pc = .ok (.lsub, 1)) (hp : pc + 1 = pc') (k : own_G p e below s Q ce sl (T.setTop (mkF m pc' Ls (.long (x - y) :: st)))) : own_G p e below s Q ce sl (T.setTop (mkF m pc Ls (.long y :: .long x :: st))) := by
  subst hp; exact own_fw (fun t q => XS.lsub X.here hx rfl hd rfl q) k
theorem own_lmul {x y : Int64} (X : Stand p l e R s m args below meth c T locs cells slots) (hx : p.tables.exec = Jvm.exec) (hd : decode c.code pc = .ok (.lmul, 1)) (hp : pc + 1 = pc') (k : own_G p e below s Q ce sl (T.setTop (mkF m pc' Ls (.long (x * y) :: st)))) : own_G p e below s Q ce sl (T.setTop (mkF m pc Ls (.long y :: .long x :: st))) := by
  subst hp; exact own_fw (fun t q => XS.lmul X.here hx rfl hd rfl q) k
theorem own_land {x y : Int64} (X : Stand p l e R s m args below meth c T locs cells slots) (hx : p.tables.exec = Jvm.exec) (hd : decode c.code pc = .ok (.land, 1)) (hp : pc + 1 = pc') (k : own_G p e below s Q ce sl (T.setTop (mkF m pc' Ls (.long (x &&& y) :: st)))) : own_G p e below s Q ce sl (T.setTop (mkF m pc Ls (.long y :: .long x :: st))) := by
  subst hp; exact own_fw (fun t q => XS.land X.here hx rfl hd rfl q) k
theorem own_lor {x y : Int64} (X : Stand p l e R s m args below meth c T locs cells slots) (hx : p.tables.exec = Jvm.exec) (hd : decode c.code pc = .ok (.lor, 1)) (hp : pc + 1 = pc') (k : own_G p e below s Q ce sl (T.setTop (mkF m pc' Ls (.long (x ||| y) :: st)))) : own_G p e below s Q ce sl (T.setTop (mkF m pc Ls (.long y :: .long x :: st))) := by
  subst hp; exact own_fw (fun t q => XS.lor X.here hx rfl hd rfl q) k
theorem own_lxor {x y : Int64} (X : Stand p l e R s m args below meth c T locs cells slots) (hx : p.tables.exec = Jvm.exec) (hd : decode c.code pc = .ok (.lxor, 1)) (hp : pc + 1 = pc') (k : own_G p e below s Q ce sl (T.setTop (mkF m pc' Ls (.long (x ^^^ y) :: st)))) : own_G p e below s Q ce sl (T.setTop (mkF m pc Ls (.long y :: .long x :: st))) := by
  subst hp; exact own_fw (fun t q => XS.lxor X.here hx rfl hd rfl q) k
theorem own_lshl {x : Int64} {y : Int32} (X : Stand p l e R s m args below meth c T locs cells slots) (hx : p.tables.exec = Jvm.exec) (hd : decode c.code pc = .ok (.lshl, 1)) (hp : pc + 1 = pc') (k : own_G p e below s Q ce sl (T.setTop (mkF m pc' Ls (.long (x <<< (y &&& 0x3f).toInt64) :: st)))) : own_G p e below s Q ce sl (T.setTop (mkF m pc Ls (.int y :: .long x :: st))) := by
  subst hp; exact own_fw (fun t q => XS.lshl X.here hx rfl hd rfl q) k
theorem own_lshr {x : Int64} {y : Int32} (X : Stand p l e R s m args below meth c T locs cells slots) (hx : p.tables.exec = Jvm.exec) (hd : decode c.code pc = .ok (.lshr, 1)) (hp : pc + 1 = pc') (k : own_G p e below s Q ce sl (T.setTop (mkF m pc' Ls (.long (x >>> (y &&& 0x3f).toInt64) :: st)))) : own_G p e below s Q ce sl (T.setTop (mkF m pc Ls (.int y :: .long x :: st))) := by
  subst hp; exact own_fw (fun t q => XS.lshr X.here hx rfl hd rfl q) k
theorem own_lushr {x : Int64} {y : Int32} (X : Stand p l e R s m args below meth c T locs cells slots) (hx : p.tables.exec = Jvm.exec) (hd : decode c.code pc = .ok (.lushr, 1)) (hp : pc + 1 = pc') (k : own_G p e below s Q ce sl (T.setTop (mkF m pc' Ls (.long ((x.toUInt64 >>> (y &&& 0x3f).toInt64.toUInt64).toInt64) :: st)))) : own_G p e below s Q ce sl (T.setTop (mkF m pc Ls (.int y :: .long x :: st))) := by
  subst hp; exact own_fw (fun t q => XS.lushr X.here hx rfl hd rfl q) k
theorem own_idiv {x y : Int32} (X : Stand p l e R s m args below meth c T locs cells slots) (hx : p.tables.exec = Jvm.exec) (hd : decode c.code pc = .ok (.idiv, 1)) (hy : y ≠ 0) (hp : pc + 1 = pc') (k : own_G p e below s Q ce sl (T.setTop (mkF m pc' Ls (.int (x / y) :: st)))) : own_G p e below s Q ce sl (T.setTop (mkF m pc Ls (.int y :: .int x :: st))) := by
  subst hp; exact own_fw (fun t q => XS.idiv X.here hx rfl hd rfl hy q) k
theorem own_ldiv {x y : Int64} (X : Stand p l e R s m args below meth c T locs cells slots) (hx : p.tables.exec = Jvm.exec) (hd : decode c.code pc = .ok (.ldiv, 1)) (hy : y ≠ 0) (hp : pc + 1 = pc') (k : own_G p e below s Q ce sl (T.setTop (mkF m pc' Ls (.long (x / y) :: st)))) : own_G p e below s Q ce sl (T.setTop (mkF m pc Ls (.long y :: .long x :: st))) := by
  subst hp; exact own_fw (fun t q => XS.ldiv X.here hx rfl hd rfl hy q) k
theorem own_irem {x y : Int32} (X : Stand p l e R s m args below meth c T locs cells slots) (hx : p.tables.exec = Jvm.exec) (hd : decode c.code pc = .ok (.irem, 1)) (hy : y ≠ 0) (hp : pc + 1 = pc') (k : own_G p e below s Q ce sl (T.setTop (mkF m pc' Ls (.int (x % y) :: st)))) : own_G p e below s Q ce sl (T.setTop (mkF m pc Ls (.int y :: .int x :: st))) := by
  subst hp; exact own_fw (fun t q => iremM X hx rfl hd rfl hy q) k
theorem own_lrem {x y : Int64} (X : Stand p l e R s m args below meth c T locs cells slots) (hx : p.tables.exec = Jvm.exec) (hd : decode c.code pc = .ok (.lrem, 1)) (hy : y ≠ 0) (hp : pc + 1 = pc') (k : own_G p e below s Q ce sl (T.setTop (mkF m pc' Ls (.long (x % y) :: st)))) : own_G p e below s Q ce sl (T.setTop (mkF m pc Ls (.long y :: .long x :: st))) := by
  subst hp; rw [← lrem_mod] at k; exact own_fw (fun t q => XS.lrem X.here hx rfl hd rfl hy q) k
theorem own_ineg {x : Int32} (X : Stand p l e R s m args below meth c T locs cells slots) (hx : p.tables.exec = Jvm.exec) (hd : decode c.code pc = .ok (.ineg, 1)) (hp : pc + 1 = pc') (k : own_G p e below s Q ce sl (T.setTop (mkF m pc' Ls (.int (-x) :: st)))) : own_G p e below s Q ce sl (T.setTop (mkF m pc Ls (.int x :: st))) := by
  subst hp; exact own_fw (fun t q => XS.ineg X.here hx rfl hd rfl q) k
theorem own_lneg {x : Int64} (X : Stand p l e R s m args below meth c T locs cells slots) (hx : p.tables.exec = Jvm.exec) (hd : decode c.code pc = .ok (.lneg, 1)) (hp : pc + 1 = pc') (k : own_G p e below s Q ce sl (T.setTop (mkF m pc' Ls (.long (-x) :: st)))) : own_G p e below s Q ce sl (T.setTop (mkF m pc Ls (.long x :: st))) := by
  subst hp; exact own_fw (fun t q => XS.lneg X.here hx rfl hd rfl q) k
theorem own_i2l {x : Int32} (X : Stand p l e R s m args below meth c T locs cells slots) (hx : p.tables.exec = Jvm.exec) (hd : decode c.code pc = .ok (.i2l, 1)) (hp : pc + 1 = pc') (k : own_G p e below s Q ce sl (T.setTop (mkF m pc' Ls (.long x.toInt64 :: st)))) : own_G p e below s Q ce sl (T.setTop (mkF m pc Ls (.int x :: st))) := by
  subst hp; exact own_fw (fun t q => XS.i2l X.here hx rfl hd rfl q) k
theorem own_l2i {x : Int64} (X : Stand p l e R s m args below meth c T locs cells slots) (hx : p.tables.exec = Jvm.exec) (hd : decode c.code pc = .ok (.l2i, 1)) (hp : pc + 1 = pc') (k : own_G p e below s Q ce sl (T.setTop (mkF m pc' Ls (.int x.toInt32 :: st)))) : own_G p e below s Q ce sl (T.setTop (mkF m pc Ls (.long x :: st))) := by
  subst hp; exact own_fw (fun t q => XS.l2i X.here hx rfl hd rfl q) k
theorem own_i2b {x : Int32} (X : Stand p l e R s m args below meth c T locs cells slots) (hx : p.tables.exec = Jvm.exec) (hd : decode c.code pc = .ok (.i2b, 1)) (hp : pc + 1 = pc') (k : own_G p e below s Q ce sl (T.setTop (mkF m pc' Ls (.int x.toInt8.toInt32 :: st)))) : own_G p e below s Q ce sl (T.setTop (mkF m pc Ls (.int x :: st))) := by
  subst hp; exact own_fw (fun t q => XS.i2b X.here hx rfl hd rfl q) k
theorem own_lcmp {x y : Int64} (X : Stand p l e R s m args below meth c T locs cells slots) (hx : p.tables.exec = Jvm.exec) (hd : decode c.code pc = .ok (.lcmp, 1)) (hp : pc + 1 = pc') (k : own_G p e below s Q ce sl (T.setTop (mkF m pc' Ls (.int (lcmpW x y) :: st)))) : own_G p e below s Q ce sl (T.setTop (mkF m pc Ls (.long y :: .long x :: st))) := by
  subst hp; exact own_fw (fun t q => XS.lcmp X.here hx rfl hd rfl q) k
theorem own_dup {x : Value} (X : Stand p l e R s m args below meth c T locs cells slots) (hx : p.tables.exec = Jvm.exec) (hd : decode c.code pc = .ok (.dup, 1)) (hc : x.category = 1) (hp : pc + 1 = pc') (k : own_G p e below s Q ce sl (T.setTop (mkF m pc' Ls (x :: x :: st)))) : own_G p e below s Q ce sl (T.setTop (mkF m pc Ls (x :: st))) := by
  subst hp; exact own_fw (fun t q => XS.dup X.here hx rfl hd rfl hc q) k
theorem own_pop {x : Value} (X : Stand p l e R s m args below meth c T locs cells slots) (hx : p.tables.exec = Jvm.exec) (hd : decode c.code pc = .ok (.pop, 1)) (hc : x.category = 1) (hp : pc + 1 = pc') (k : own_G p e below s Q ce sl (T.setTop (mkF m pc' Ls st))) : own_G p e below s Q ce sl (T.setTop (mkF m pc Ls (x :: st))) := by
  subst hp; exact own_fw (fun t q => XS.pop X.here hx rfl hd rfl hc q) k
theorem own_dupX1 {x y : Value} (X : Stand p l e R s m args below meth c T locs cells slots) (hx : p.tables.exec = Jvm.exec) (hd : decode c.code pc = .ok (.dup_x1, 1)) (hc : x.category = 1) (hc' : y.category = 1) (hp : pc + 1 = pc') (k : own_G p e below s Q ce sl (T.setTop (mkF m pc' Ls (x :: y :: x :: st)))) : own_G p e below s Q ce sl (T.setTop (mkF m pc Ls (x :: y :: st))) := by
  subst hp; exact own_fw (fun t q => XS.dupX1 X.here hx rfl hd rfl hc hc' q) k
theorem own_dup2 {x y : Value} (X : Stand p l e R s m args below meth c T locs cells slots) (hx : p.tables.exec = Jvm.exec) (hd : decode c.code pc = .ok (.dup2, 1)) (hc : x.category = 1) (hc' : y.category = 1) (hp : pc + 1 = pc') (k : own_G p e below s Q ce sl (T.setTop (mkF m pc' Ls (x :: y :: x :: y :: st)))) : own_G p e below s Q ce sl (T.setTop (mkF m pc Ls (x :: y :: st))) := by
  subst hp; exact own_fw (fun t q => XT.dup2 X.here hx rfl hd rfl hc hc' q) k
theorem own_iinc {i : Nat} {cst : Int} {x z : Int32} (X : Stand p l e R s m args below meth c T locs cells slots) (hx : p.tables.exec = Jvm.exec) (hd : decode c.code pc = .ok (.iinc i cst, 3)) (hl : Ls[i]? = some (.val (.int x))) (hz : Int32.ofInt cst = z) {l' : Array Slot} (hl' : storeLocals Ls i (.int (x + z)) = some l') (hp : pc + 3 = pc') (k : own_G p e below s Q ce sl (T.setTop (mkF m pc' l' st))) : own_G p e below s Q ce sl (T.setTop (mkF m pc Ls st)) := by
  subst hp hz; exact own_fw (fun t q => XS.iinc X.here hx rfl hd hl hl' q) k
theorem own_goto {o : Int} (X : Stand p l e R s m args below meth c T locs cells slots) (hx : p.tables.exec = Jvm.exec) (hd : decode c.code pc = .ok (.goto o, 3)) (ho : 0 ≤ (pc : Int) + o) (hp : ((pc : Int) + o).toNat = pc') (k : own_G p e below s Q ce sl (T.setTop (mkF m pc' Ls st))) : own_G p e below s Q ce sl (T.setTop (mkF m pc Ls st)) := own_fw (fun t q => XS.goto X.here hx rfl (pc0 := pc) rfl hd ho hp q) k
theorem own_icmpT {o : Int} {cd : ClassFile.Cond} {x y : Int32} (X : Stand p l e R s m args below meth c T locs cells slots) (hx : p.tables.exec = Jvm.exec) (hd : decode c.code pc = .ok (.if_icmp cd o, 3)) (hc : if_icmp.holds cd x y = true) (ho : 0 ≤ (pc : Int) + o) (hp : ((pc : Int) + o).toNat = pc') (k : own_G p e below s Q ce sl (T.setTop (mkF m pc' Ls st))) : own_G p e below s Q ce sl (T.setTop (mkF m pc Ls (.int y :: .int x :: st))) := own_fw (fun t q => XS.icmpYes X.here hx rfl (pc0 := pc) rfl hd rfl hc ho hp q) k
theorem own_icmpF {o : Int} {cd : ClassFile.Cond} {x y : Int32} (X : Stand p l e R s m args below meth c T locs cells slots) (hx : p.tables.exec = Jvm.exec) (hd : decode c.code pc = .ok (.if_icmp cd o, 3)) (hc : if_icmp.holds cd x y = false) (hp : pc + 3 = pc') (k : own_G p e below s Q ce sl (T.setTop (mkF m pc' Ls st))) : own_G p e below s Q ce sl (T.setTop (mkF m pc Ls (.int y :: .int x :: st))) := by
  subst hp; exact own_fw (fun t q => XS.icmpNo X.here hx rfl hd rfl hc q) k
theorem own_ifT {o : Int} {cd : ClassFile.Cond} {x : Int32} (X : Stand p l e R s m args below meth c T locs cells slots) (hx : p.tables.exec = Jvm.exec) (hd : decode c.code pc = .ok (.ifCond cd o, 3)) (hc : if_icmp.holds cd x 0 = true) (ho : 0 ≤ (pc : Int) + o) (hp : ((pc : Int) + o).toNat = pc') (k : own_G p e below s Q ce sl (T.setTop (mkF m pc' Ls st))) : own_G p e below s Q ce sl (T.setTop (mkF m pc Ls (.int x :: st))) := own_fw (fun t q => XS.ifYes X.here hx rfl (pc0 := pc) rfl hd rfl ((if0 cd x).trans hc) ho hp q) k
theorem own_ifF {o : Int} {cd : ClassFile.Cond} {x : Int32} (X : Stand p l e R s m args below meth c T locs cells slots) (hx : p.tables.exec = Jvm.exec) (hd : decode c.code pc = .ok (.ifCond cd o, 3)) (hc : if_icmp.holds cd x 0 = false) (hp : pc + 3 = pc') (k : own_G p e below s Q ce sl (T.setTop (mkF m pc' Ls st))) : own_G p e below s Q ce sl (T.setTop (mkF m pc Ls (.int x :: st))) := by
  subst hp; exact own_fw (fun t q => XS.ifNo X.here hx rfl hd rfl ((if0 cd x).trans hc) q) k
theorem own_ltL {x y : Int64} (h : x < y) : if_icmp.holds .lt (lcmpW x y) 0 = true ∧ if_icmp.holds .ge (lcmpW x y) 0 = false ∧ if_icmp.holds .gt (lcmpW y x) 0 = true ∧ if_icmp.holds .le (lcmpW y x) 0 = false := by
  have h1 := (lw_lt x y).mpr h
  have h2 := (lw_gt y x).mpr h
  exact ⟨(tlt h1).1, (tlt h1).2.1, (tlt h2).2.2.1, (tlt h2).2.2.2⟩
theorem own_geL {x y : Int64} (h : ¬ x < y) : if_icmp.holds .lt (lcmpW x y) 0 = false ∧ if_icmp.holds .ge (lcmpW x y) 0 = true ∧ if_icmp.holds .gt (lcmpW y x) 0 = false ∧ if_icmp.holds .le (lcmpW y x) 0 = true := by
  have h1 : ¬ lcmpW x y < 0 := fun q => h ((lw_lt x y).mp q)
  have h2 : ¬ 0 < lcmpW y x := fun q => h ((lw_gt y x).mp q)
  exact ⟨(flt h1).1, (flt h1).2.1, (flt h2).2.2.1, (flt h2).2.2.2⟩
theorem own_eqL {x y : Int64} (h : x = y) : if_icmp.holds .eq (lcmpW x y) 0 = true ∧ if_icmp.holds .ne (lcmpW x y) 0 = false := teq ((lw_eq x y).mpr h)
theorem own_neL {x y : Int64} (h : ¬ x = y) : if_icmp.holds .eq (lcmpW x y) 0 = false ∧ if_icmp.holds .ne (lcmpW x y) 0 = true := feq (fun q => h ((lw_eq x y).mp q))
theorem own_bT {P : Prop} [Decidable P] (h : P) : if_icmp.holds .eq (if P then (1 : Int32) else 0) 0 = false ∧ if_icmp.holds .ne (if P then (1 : Int32) else 0) 0 = true := by rw [if_pos h]; exact ⟨rfl, rfl⟩
theorem own_bF {P : Prop} [Decidable P] (h : ¬ P) : if_icmp.holds .eq (if P then (1 : Int32) else 0) 0 = true ∧ if_icmp.holds .ne (if P then (1 : Int32) else 0) 0 = false := by rw [if_neg h]; exact ⟨rfl, rfl⟩
theorem own_b01 {P : Prop} [Decidable P] : (if P then (1 : Int32) else 0) = 0 ∨ (if P then (1 : Int32) else 0) = 1 := by by_cases h : P <;> simp [h]
theorem own_ifnonnullT {o : Int} {b : Addr} (X : Stand p l e R s m args below meth c T locs cells slots) (hx : p.tables.exec = Jvm.exec) (hd : decode c.code pc = .ok (.ifnonnull o, 3)) (ho : 0 ≤ (pc : Int) + o) (hp : ((pc : Int) + o).toNat = pc') (k : own_G p e below s Q ce sl (T.setTop (mkF m pc' Ls st))) : own_G p e below s Q ce sl (T.setTop (mkF m pc Ls (.ref b :: st))) := own_fw (fun t q => XS.ifnonnullYes X.here hx rfl (pc0 := pc) rfl hd rfl ho hp q) k
theorem own_ifnonnullF {o : Int} (X : Stand p l e R s m args below meth c T locs cells slots) (hx : p.tables.exec = Jvm.exec) (hd : decode c.code pc = .ok (.ifnonnull o, 3)) (hp : pc + 3 = pc') (k : own_G p e below s Q ce sl (T.setTop (mkF m pc' Ls st))) : own_G p e below s Q ce sl (T.setTop (mkF m pc Ls (.null :: st))) := by
  subst hp; exact own_fw (fun t q => XS.ifnonnullNo X.here hx rfl hd rfl q) k
theorem own_ifnullT {o : Int} (X : Stand p l e R s m args below meth c T locs cells slots) (hx : p.tables.exec = Jvm.exec) (hd : decode c.code pc = .ok (.ifnull o, 3)) (ho : 0 ≤ (pc : Int) + o) (hp : ((pc : Int) + o).toNat = pc') (k : own_G p e below s Q ce sl (T.setTop (mkF m pc' Ls st))) : own_G p e below s Q ce sl (T.setTop (mkF m pc Ls (.null :: st))) := own_fw (fun t q => XS.ifnullYes X.here hx rfl (pc0 := pc) rfl hd rfl ho hp q) k
theorem own_ifnullF {o : Int} {b : Addr} (X : Stand p l e R s m args below meth c T locs cells slots) (hx : p.tables.exec = Jvm.exec) (hd : decode c.code pc = .ok (.ifnull o, 3)) (hp : pc + 3 = pc') (k : own_G p e below s Q ce sl (T.setTop (mkF m pc' Ls st))) : own_G p e below s Q ce sl (T.setTop (mkF m pc Ls (.ref b :: st))) := by
  subst hp; exact own_fw (fun t q => XS.ifnullNo X.here hx rfl hd rfl q) k
theorem own_acmpT {o : Int} {cd : ACond} {x y : Value} (X : Stand p l e R s m args below meth c T locs cells slots) (hx : p.tables.exec = Jvm.exec) (hd : decode c.code pc = .ok (.if_acmp cd o, 3)) (h1 : x.isRef = true) (h2 : y.isRef = true) (hc : XT.acmp cd x y = true) (ho : 0 ≤ (pc : Int) + o) (hp : ((pc : Int) + o).toNat = pc') (k : own_G p e below s Q ce sl (T.setTop (mkF m pc' Ls st))) : own_G p e below s Q ce sl (T.setTop (mkF m pc Ls (y :: x :: st))) := own_fw (fun t q => XT.acmpYes X.here hx rfl (pc0 := pc) rfl hd rfl h1 h2 hc ho hp q) k
theorem own_acmpF {o : Int} {cd : ACond} {x y : Value} (X : Stand p l e R s m args below meth c T locs cells slots) (hx : p.tables.exec = Jvm.exec) (hd : decode c.code pc = .ok (.if_acmp cd o, 3)) (h1 : x.isRef = true) (h2 : y.isRef = true) (hc : XT.acmp cd x y = false) (hp : pc + 3 = pc') (k : own_G p e below s Q ce sl (T.setTop (mkF m pc' Ls st))) : own_G p e below s Q ce sl (T.setTop (mkF m pc Ls (y :: x :: st))) := by
  subst hp; exact own_fw (fun t q => XT.acmpNo X.here hx rfl hd rfl h1 h2 hc q) k
theorem own_getF (X : Stand p l e R s m args below meth c T locs cells slots) (hx : p.tables.exec = Jvm.exec) (hZ : Z.Warmed39 s.vm) {own O n d : String} {index : Nat} (hown : s.vm.findClass own = some m.cls) (w1 : (Jvm.Cond.fieldLink own index O n d).before a0 Z = true) (eT : T.heap = h) {a : Addr} {v : Value} (F : Fld Z h a O n d v) (hd : decode c.code pc = .ok (.getfield index, 3)) (hp : pc + 3 = pc')
    (k : ∀ T' : State, Stand p l e R s m args below meth c T' locs cells slots → T'.heap = h → own_G p e below s Q ce sl (T'.setTop (mkF m pc' Ls (v :: st)))) : own_G p e below s Q ce sl (T.setTop (mkF m pc Ls (.ref a :: st))) := by
  subst hp
  obtain ⟨T', X', e', st'⟩ := getF X hx hZ hown (host := "") (Or.inl w1) Via.refl eT F (g := mkF m pc Ls (.ref a :: st)) rfl rfl hd
  exact own_fw st' (k T' X' e')
theorem own_putF (X : Stand p l e R s m args below meth c T locs cells slots) (hx : p.tables.exec = Jvm.exec) (hZ : Z.Warmed39 s.vm) {own O n d C : String} {index kk : Nat} {ty : FieldType} (hown : s.vm.findClass own = some m.cls) (w1 : (Jvm.Cond.fieldLink own index O n d).before a0 Z = true) (eT : T.heap = h) {a : Addr} {v old : Value} (F : Fld Z h a O n d old) (E : Exa Z h a C) (L : (Jvm.Cond.lays C O n d).before a0 Z = true ∨ ((Jvm.Cond.laysFinal C O n d).before a0 Z = true ∧ own = O ∧ meth.name = "<init>")) (wi : (Jvm.Cond.instantiable C kk).before a0 Z = true) (hty : parseFieldDescriptor d = some ty) (hn : narrow ty v = v) (hf : fits ty v = true) (hd : decode c.code pc = .ok (.putfield index, 3)) (hp : pc + 3 = pc')
    (k : ∀ (T' : State) (h' : Heap), Stand p l e R s m args below meth c T' (locs ++ [⟨a, RoadKit.slotOf Z O n d⟩]) cells slots → T'.heap = h' → Wr h h' a (RoadKit.slotOf Z O n d) v → own_G p e below s Q ce sl (T'.setTop (mkF m pc' Ls st))) : own_G p e below s Q ce sl (T.setTop (mkF m pc Ls (v :: .ref a :: st))) := by
  subst hp
  obtain ⟨T', h', X', e', W', st'⟩ := putF X hx hZ hown (host := "") (Or.inl w1) Via.refl eT F E L wi hty hn hf (g := mkF m pc Ls (v :: .ref a :: st)) rfl rfl hd
  exact own_fw st' (k T' h' X' e' W')
theorem own_new (X : Stand p l e R s m args below meth c T locs cells slots) (hx : p.tables.exec = Jvm.exec) (hZ : Z.Warmed39 s.vm) {own C : String} {index n : Nat} (hown : s.vm.findClass own = some m.cls) (w1 : (Jvm.Cond.classLink own index C).before a0 Z = true) (wi : (Jvm.Cond.instantiable C n).before a0 Z = true) (wz : (Jvm.Cond.initialized C).before a0 Z = true) (eT : T.heap = h) (hd : decode c.code pc = .ok (.new index, 3)) (hp : pc + 3 = pc') (hc : cells + 1 ≤ R.cells) (hl : slots + n ≤ R.slots)
    (k : ∀ (T' : State) (h' : Heap) (a : Addr), a = h.size → Stand p l e R s m args below meth c T' locs (cells + 1) (slots + n) → T'.heap = h' → Ext h h' → Exa Z h' a C → (∀ {O nm d : String} {ty : FieldType}, Laid Z a0 C O nm d → parseFieldDescriptor d = some ty → Fld Z h' a O nm d (defaultValue ty)) → own_G p e below s Q ce sl (T'.setTop (mkF m pc' Ls (.ref a :: st)))) : own_G p e below s Q ce sl (T.setTop (mkF m pc Ls st)) := by
  subst hp
  obtain ⟨T', h', X', e', E', A', D', -, st'⟩ := newO X hx hZ hown w1 wi wz eT (g := mkF m pc Ls st) rfl hd hc hl
  exact own_fw st' (k T' h' h.size rfl X' e' E' A' D')
theorem own_initO (X : Stand p l e R s m args below meth c T locs cells slots) (hx : p.tables.exec = Jvm.exec) (hZ : Z.Warmed39 s.vm) {own : String} {idx : Nat} (hown : s.vm.findClass own = some m.cls) (w1 : (Jvm.Cond.methodLink own idx Lib.objectInit).before a0 Z = true) (w2 : (Jvm.Cond.instanceMethod Lib.objectInit).before a0 Z = true) (w3 : (Jvm.Cond.code Lib.objectInit object_method_1_code 1 none).before a0 Z = true) (eT : T.heap = h) (hsize : Ls.size = c.maxLocals) {a : Addr} (hd : decode c.code pc = .ok (.invokespecial idx, 3)) (hf : 1 ≤ R.frames) {W : Nat} (hW : (st.map fun v => v.category).sum ≤ W) (hl : W + 12 ≤ R.locals) (hp : pc + 3 = pc')
    (k : ∀ T' : State, Stand p l e R s m args below meth c T' locs cells slots → T'.heap = h → own_G p e below s Q ce sl (T'.setTop (mkF m pc' Ls st))) : own_G p e below s Q ce sl (T.setTop (mkF m pc Ls (.ref a :: st))) := by
  subst hp
  obtain ⟨T', X', e', st'⟩ := initO X hx hZ hown w1 w2 w3 eT (g := mkF m pc Ls (.ref a :: st)) rfl hsize rfl hd hf (W := W) (by show 2 * 0 + _ ≤ _; omega) hl
  exact own_fw st' (k T' X' e')
theorem own_callS (X : Stand p l e R s m args below meth c T locs cells slots) (hx : p.tables.exec = Jvm.exec) (hZ : Z.Warmed39 s.vm) {own : String} {index : Nat} {y : MethodName} {bytes : ByteArray} {maxL : Nat} {ret : Option FieldType} (hown : s.vm.findClass own = some m.cls) (w1 : (Jvm.Cond.methodLink own index y).before a0 Z = true) (w2 : (Jvm.Cond.static y).before a0 Z = true) (w3 : (Jvm.Cond.initialized y.cls).before a0 Z = true) (w4 : (Jvm.Cond.code y bytes maxL ret).before a0 Z = true) (hy : y.cls ≠ "java/lang/invoke/MethodHandle" ∧ y.cls ≠ "java/lang/invoke/VarHandle") {rm : Room} {as' : List Value} {Q' : Option Value → Heap → List Loc → Prop} (hM : own_M l Z y bytes maxL ret [] rm as'.toArray h Q' rm.cells rm.slots) (eT : T.heap = h) {W : Nat} (hf : rm.frames + 1 ≤ R.frames) (hl : W + (maxL + 11) + rm.locals ≤ R.locals) {ps : List FieldType} {r : Option FieldType} (pd : parseMethodDescriptor y.desc = some ⟨ps, r⟩) (hlen : as'.length = ps.length) {stk rest : List Value} (hstk : stk = as'.reverse ++ rest) (hd : decode c.code pc = .ok (.invokestatic index, 3)) (hW : (rest.map fun v => v.category).sum ≤ W) (hsize : Ls.size = c.maxLocals) (hc : cells + rm.cells ≤ R.cells) (hs : slots + rm.slots ≤ R.slots) (hp : pc + 3 = pc')
    (k : ∀ (v : Option Value) (T' : State) (L : List Loc), Stand p l e R s m args below meth c T' (locs ++ L) (cells + rm.cells) (slots + rm.slots) → Q' v T'.heap L → own_G p e below s Q ce sl (T'.setTop (mkF m pc' Ls (v.toList ++ rest)))) : own_G p e below s Q ce sl (T.setTop (mkF m pc Ls stk)) := by
  subst hp hstk
  obtain ⟨v, vm1, ⟨T', L', k', n'⟩, hWm, X', ⟨Lc, hQ', l', y', z'⟩, st'⟩ := Jvm.LawKit.callS X hx (y := y) hown (mvT hZ w1) (mvT hZ w2) (mvT hZ w3) (mvT hZ w4) hy (backOf (W := W) hM hZ w4 w3 hf hl) (g := mkF m pc Ls (as'.reverse ++ rest)) rfl hsize (argsL := as') (rest := rest) (lenOf pd hlen) rfl (by show 2 * 0 + _ ≤ _; omega) hd (fun _ _ => ⟨rfl, eT, hc, hs⟩)
  dsimp only [Pt.U, Pt.locs, Pt.cells, Pt.slots] at X' l' y' z' hQ'
  subst l' y' z'
  exact own_fw st' (k v T' Lc X' hQ')
theorem own_callC (X : Stand p l e R s m args below meth c T locs cells slots) (hx : p.tables.exec = Jvm.exec) (hZ : Z.Warmed39 s.vm) {own : String} {index : Nat} {y : MethodName} {bytes : ByteArray} {maxL : Nat} (hy1 : y.name = "<init>") (hown : s.vm.findClass own = some m.cls) (w1 : (Jvm.Cond.methodLink own index y).before a0 Z = true) (w2 : (Jvm.Cond.instanceMethod y).before a0 Z = true) (w3 : (Jvm.Cond.initialized y.cls).before a0 Z = true) (w4 : (Jvm.Cond.code y bytes maxL none).before a0 Z = true) (hy : y.cls ≠ "java/lang/invoke/MethodHandle" ∧ y.cls ≠ "java/lang/invoke/VarHandle") {a : Addr} {rm : Room} {as' : List Value} {Q' : Option Value → Heap → List Loc → Prop} (hM : own_M l Z y bytes maxL none [] rm (.ref a :: as').toArray h Q' rm.cells rm.slots) (eT : T.heap = h) {W : Nat} (hf : rm.frames + 1 ≤ R.frames) (hl : W + (maxL + 11) + rm.locals ≤ R.locals) {ps : List FieldType} {r : Option FieldType} (pd : parseMethodDescriptor y.desc = some ⟨ps, r⟩) (hlen : as'.length = ps.length) {stk rest : List Value} (hstk : stk = as'.reverse ++ .ref a :: rest) (hd : decode c.code pc = .ok (.invokespecial index, 3)) (hW : (rest.map fun v => v.category).sum ≤ W) (hsize : Ls.size = c.maxLocals) (hc : cells + rm.cells ≤ R.cells) (hs : slots + rm.slots ≤ R.slots) (hp : pc + 3 = pc')
    (k : ∀ (v : Option Value) (T' : State) (L : List Loc), Stand p l e R s m args below meth c T' (locs ++ L) (cells + rm.cells) (slots + rm.slots) → Q' v T'.heap L → own_G p e below s Q ce sl (T'.setTop (mkF m pc' Ls (v.toList ++ rest)))) : own_G p e below s Q ce sl (T.setTop (mkF m pc Ls stk)) := by
  subst hp hstk
  obtain ⟨v, vm1, ⟨T', L', k', n'⟩, hWm, X', ⟨Lc, hQ', l', y', z'⟩, st'⟩ := X.specialBack hx (y := y) hy1 hown (mvT hZ w1) (mvT hZ w2) (mvT hZ w4) hy (backOf (W := W) hM hZ w4 w3 hf hl) (g := mkF m pc Ls (as'.reverse ++ .ref a :: rest)) rfl hsize (Steps.refl _) (a := a) (argsL := as') (rest := rest) (lenOf pd hlen) rfl (by show 2 * 0 + _ ≤ _; omega) hd (fun _ _ => ⟨rfl, eT, hc, hs⟩)
  dsimp only [Pt.U, Pt.locs, Pt.cells, Pt.slots] at X' l' y' z' hQ'
  subst l' y' z'
  exact own_fw (fun t q => st'.trans q) (k v T' Lc X' hQ')
theorem own_callV (X : Stand p l e R s m args below meth c T locs cells slots) (hx : p.tables.exec = Jvm.exec) (hZ : Z.Warmed39 s.vm) {own C : String} {index : Nat} {y : MethodName} {bytes : ByteArray} {maxL : Nat} {ret : Option FieldType} (hown : s.vm.findClass own = some m.cls) (w1 : (Jvm.Cond.methodLink own index y).before a0 Z = true) (w2 : (Jvm.Cond.declares y).before a0 Z = true) (w3 : (Jvm.Cond.selects C y y).before a0 Z = true) (w4 : (Jvm.Cond.instanceMethod y).before a0 Z = true) (w5 : (Jvm.Cond.initialized y.cls).before a0 Z = true) (w6 : (Jvm.Cond.code y bytes maxL ret).before a0 Z = true) (hy : y.cls ≠ "java/lang/invoke/MethodHandle" ∧ y.cls ≠ "java/lang/invoke/VarHandle") {a : Addr} (E : Exa Z h a C) {rm : Room} {as' : List Value} {Q' : Option Value → Heap → List Loc → Prop} (hM : own_M l Z y bytes maxL ret [] rm (.ref a :: as').toArray h Q' rm.cells rm.slots) (eT : T.heap = h) {W : Nat} (hf : rm.frames + 1 ≤ R.frames) (hl : W + (maxL + 11) + rm.locals ≤ R.locals) {ps : List FieldType} {r : Option FieldType} (pd : parseMethodDescriptor y.desc = some ⟨ps, r⟩) (hlen : as'.length = ps.length) {stk rest : List Value} (hstk : stk = as'.reverse ++ .ref a :: rest) (hd : decode c.code pc = .ok (.invokevirtual index, 3)) (hW : (rest.map fun v => v.category).sum ≤ W) (hsize : Ls.size = c.maxLocals) (hc : cells + rm.cells ≤ R.cells) (hs : slots + rm.slots ≤ R.slots) (hp : pc + 3 = pc')
    (k : ∀ (v : Option Value) (T' : State) (L : List Loc), Stand p l e R s m args below meth c T' (locs ++ L) (cells + rm.cells) (slots + rm.slots) → Q' v T'.heap L → own_G p e below s Q ce sl (T'.setTop (mkF m pc' Ls (v.toList ++ rest)))) : own_G p e below s Q ce sl (T.setTop (mkF m pc Ls stk)) := by
  subst hp hstk
  obtain ⟨cq, kq, qa, qb, qc⟩ := isOf hZ eT E
  obtain ⟨v, vm1, ⟨T', L', k', n'⟩, hWm, X', ⟨Lc, hQ', l', y', z'⟩, st'⟩ := X.virtualBack hx (y := y) (z := y) hown (mvT hZ w1) (mvT hZ w2) (notFace_of_selects (args := #[]) (mvT hZ w3)) (mvT hZ w3) (mvT hZ w4) hy (backOf (W := W) hM hZ w6 w5 hf hl) qa qc (g := mkF m pc Ls (as'.reverse ++ .ref a :: rest)) rfl hsize (Steps.refl _) (argsL := as') (rest := rest) (lenOf pd hlen) rfl (by show 2 * 0 + _ ≤ _; omega) hd (fun _ _ => ⟨rfl, eT, hc, hs⟩)
  dsimp only [Pt.U, Pt.locs, Pt.cells, Pt.slots] at X' l' y' z' hQ'
  subst l' y' z'
  exact own_fw (fun t q => st'.trans q) (k v T' Lc X' hQ')
end OwnHead
theorem od_jdk_30_method_1_0 : decode jdk_30_method_1_code 0 = .ok (.aload_n 0, 1) := by decide +kernel
theorem od_jdk_30_method_1_1 : decode jdk_30_method_1_code 1 = .ok (.invokespecial 1, 3) := by decide +kernel
theorem ow_11 {Z : State} {a0 : Array Value} (hw : ∀ d ∈ tables_1, d.before a0 Z = true) : (Jvm.Cond.methodLink "java/lang/Record" (1 : Nat) ({ cls := "java/lang/Object", name := "<init>", desc := "()V" } : Jvm.MethodName)).before a0 Z = true := hw _ (List.mem_of_getElem? (i := 11) rfl)
theorem ow_12 {Z : State} {a0 : Array Value} (hw : ∀ d ∈ tables_1, d.before a0 Z = true) : (Jvm.Cond.instanceMethod ({ cls := "java/lang/Object", name := "<init>", desc := "()V" } : Jvm.MethodName)).before a0 Z = true := hw _ (List.mem_of_getElem? (i := 12) rfl)
theorem ow_13 {Z : State} {a0 : Array Value} (hw : ∀ d ∈ tables_1, d.before a0 Z = true) : (Jvm.Cond.code ({ cls := "java/lang/Object", name := "<init>", desc := "()V" } : Jvm.MethodName) object_method_1_code (1 : Nat) (Option.none : Option Jvm.ClassFile.FieldType)).before a0 Z = true := hw _ (List.mem_of_getElem? (i := 13) rfl)
theorem od_jdk_30_method_1_4 : decode jdk_30_method_1_code 4 = .ok (.return_, 1) := by decide +kernel
theorem opn_java_lang_Record : plainName "java/lang/Record" = true := by first | (simp [plainName, overriddenIn]; done) | decide +kernel
theorem oef_rm_rec (m : MethodId) (ra : Addr) : entryFrame m #[(.ref ra)] 1 = mkF m 0 #[.val (.ref ra)] [] := by first | (simp [entryFrame, mkF, argsToLocals, Value.category]; done) | rfl
set_option maxRecDepth 65536 in
set_option maxHeartbeats 40000000 in
theorem rm_rec (l : Launch) (Z : State) (a0 : Array Value) (hw : ∀ d ∈ tables_1, d.before a0 Z = true) (ra : Addr) (h0 : Heap) (n0 : Nat) (Z0 : n0 ≤ h0.size)  :
    own_M l Z (⟨"java/lang/Record", "<init>", "()V"⟩ : MethodName) jdk_30_method_1_code 1 none [] ({ frames := 1, cells := 0, slots := 0, locals := 12 } : Room) #[(.ref ra)] h0 (fun v h L => v = none ∧ Fr n0 L ∧ (h = h0)) 0 0 := by
  refine own_body (plainFor_of_name opn_java_lang_Record) ?_
  intro p e s m below meth c s1 hx hby hml hown hnm hret hlk hZ X0 e0
  rw [oef_rm_rec m ra]
  have N0 := Fr.nil n0
  refine own_aloadN X0 hx (hb hby od_jdk_30_method_1_0) rfl rfl (pc' := 1) rfl ?_
  refine own_initO X0 hx hZ hown (ow_11 hw) (ow_12 hw) (ow_13 hw) e0 (by rw [hml]; rfl) (hb hby od_jdk_30_method_1_1) (by decide) (W := 0) (Nat.le_of_eq rfl) (by decide) (pc' := 4) rfl ?_
  intro T1 X1 e1
  exact own_retV X1 hx hret hlk (hb hby od_jdk_30_method_1_4) ⟨rfl, N0, e1⟩ (by decide) (by decide)
theorem od_prog_22_method_1_0 : decode prog_22_method_1_code 0 = .ok (.aload_n 0, 1) := by decide +kernel
theorem od_prog_22_method_1_1 : decode prog_22_method_1_code 1 = .ok (.invokespecial 1, 3) := by decide +kernel
theorem ow_6 {Z : State} {a0 : Array Value} (hw : ∀ d ∈ tables_1, d.before a0 Z = true) : (Jvm.Cond.methodLink "com/example/adjacity/adjacity/Layout" (1 : Nat) ({ cls := "java/lang/Record", name := "<init>", desc := "()V" } : Jvm.MethodName)).before a0 Z = true := hw _ (List.mem_of_getElem? (i := 6) rfl)
theorem opd___V : parseMethodDescriptor "()V" = some ⟨[], none⟩ := by decide +kernel
theorem ow_7 {Z : State} {a0 : Array Value} (hw : ∀ d ∈ tables_1, d.before a0 Z = true) : (Jvm.Cond.instanceMethod ({ cls := "java/lang/Record", name := "<init>", desc := "()V" } : Jvm.MethodName)).before a0 Z = true := hw _ (List.mem_of_getElem? (i := 7) rfl)
theorem ow_9 {Z : State} {a0 : Array Value} (hw : ∀ d ∈ tables_1, d.before a0 Z = true) : (Jvm.Cond.initialized "java/lang/Record").before a0 Z = true := hw _ (List.mem_of_getElem? (i := 9) rfl)
theorem ow_10 {Z : State} {a0 : Array Value} (hw : ∀ d ∈ tables_1, d.before a0 Z = true) : (Jvm.Cond.code ({ cls := "java/lang/Record", name := "<init>", desc := "()V" } : Jvm.MethodName) jdk_30_method_1_code (1 : Nat) (Option.none : Option Jvm.ClassFile.FieldType)).before a0 Z = true := hw _ (List.mem_of_getElem? (i := 10) rfl)
theorem od_prog_22_method_1_4 : decode prog_22_method_1_code 4 = .ok (.aload_n 0, 1) := by decide +kernel
theorem od_prog_22_method_1_5 : decode prog_22_method_1_code 5 = .ok (.iload_n 1, 1) := by decide +kernel
theorem od_prog_22_method_1_6 : decode prog_22_method_1_code 6 = .ok (.putfield 7, 3) := by decide +kernel
theorem ow_14 {Z : State} {a0 : Array Value} (hw : ∀ d ∈ tables_1, d.before a0 Z = true) : (Jvm.Cond.fieldLink "com/example/adjacity/adjacity/Layout" (7 : Nat) "com/example/adjacity/adjacity/Layout" "generation" "I").before a0 Z = true := hw _ (List.mem_of_getElem? (i := 14) rfl)
theorem ow_15 {Z : State} {a0 : Array Value} (hw : ∀ d ∈ tables_1, d.before a0 Z = true) : (Jvm.Cond.laysFinal "com/example/adjacity/adjacity/Layout" "com/example/adjacity/adjacity/Layout" "generation" "I").before a0 Z = true := hw _ (List.mem_of_getElem? (i := 15) rfl)
theorem ow_1 {Z : State} {a0 : Array Value} (hw : ∀ d ∈ tables_1, d.before a0 Z = true) : (Jvm.Cond.instantiable "com/example/adjacity/adjacity/Layout" (7 : Nat)).before a0 Z = true := hw _ (List.mem_of_getElem? (i := 1) rfl)
theorem od_prog_22_method_1_9 : decode prog_22_method_1_code 9 = .ok (.aload_n 0, 1) := by decide +kernel
theorem od_prog_22_method_1_10 : decode prog_22_method_1_code 10 = .ok (.lload_n 2, 1) := by decide +kernel
theorem od_prog_22_method_1_11 : decode prog_22_method_1_code 11 = .ok (.putfield 13, 3) := by decide +kernel
theorem ow_16 {Z : State} {a0 : Array Value} (hw : ∀ d ∈ tables_1, d.before a0 Z = true) : (Jvm.Cond.fieldLink "com/example/adjacity/adjacity/Layout" (13 : Nat) "com/example/adjacity/adjacity/Layout" "nodes" "J").before a0 Z = true := hw _ (List.mem_of_getElem? (i := 16) rfl)
theorem ow_17 {Z : State} {a0 : Array Value} (hw : ∀ d ∈ tables_1, d.before a0 Z = true) : (Jvm.Cond.laysFinal "com/example/adjacity/adjacity/Layout" "com/example/adjacity/adjacity/Layout" "nodes" "J").before a0 Z = true := hw _ (List.mem_of_getElem? (i := 17) rfl)
theorem osn_0 {Z : State} {a0 : Array Value} (hw : ∀ d ∈ tables_1, d.before a0 Z = true) : RoadKit.slotOf Z "com/example/adjacity/adjacity/Layout" "nodes" "J" ≠ RoadKit.slotOf Z "com/example/adjacity/adjacity/Layout" "generation" "I" := slot_ne (C := "com/example/adjacity/adjacity/Layout") (Or.inr (ow_17 hw)) (Or.inr (ow_15 hw)) (by decide) (t := .long) (t' := .int) (by decide) (by decide)
theorem od_prog_22_method_1_14 : decode prog_22_method_1_code 14 = .ok (.aload_n 0, 1) := by decide +kernel
theorem od_prog_22_method_1_15 : decode prog_22_method_1_code 15 = .ok (.lload 4, 2) := by decide +kernel
theorem od_prog_22_method_1_17 : decode prog_22_method_1_code 17 = .ok (.putfield 17, 3) := by decide +kernel
theorem ow_18 {Z : State} {a0 : Array Value} (hw : ∀ d ∈ tables_1, d.before a0 Z = true) : (Jvm.Cond.fieldLink "com/example/adjacity/adjacity/Layout" (17 : Nat) "com/example/adjacity/adjacity/Layout" "relationships" "J").before a0 Z = true := hw _ (List.mem_of_getElem? (i := 18) rfl)
theorem ow_19 {Z : State} {a0 : Array Value} (hw : ∀ d ∈ tables_1, d.before a0 Z = true) : (Jvm.Cond.laysFinal "com/example/adjacity/adjacity/Layout" "com/example/adjacity/adjacity/Layout" "relationships" "J").before a0 Z = true := hw _ (List.mem_of_getElem? (i := 19) rfl)
theorem osn_1 {Z : State} {a0 : Array Value} (hw : ∀ d ∈ tables_1, d.before a0 Z = true) : RoadKit.slotOf Z "com/example/adjacity/adjacity/Layout" "relationships" "J" ≠ RoadKit.slotOf Z "com/example/adjacity/adjacity/Layout" "generation" "I" := slot_ne (C := "com/example/adjacity/adjacity/Layout") (Or.inr (ow_19 hw)) (Or.inr (ow_15 hw)) (by decide) (t := .long) (t' := .int) (by decide) (by decide)
theorem osn_2 {Z : State} {a0 : Array Value} (hw : ∀ d ∈ tables_1, d.before a0 Z = true) : RoadKit.slotOf Z "com/example/adjacity/adjacity/Layout" "relationships" "J" ≠ RoadKit.slotOf Z "com/example/adjacity/adjacity/Layout" "nodes" "J" := slot_ne (C := "com/example/adjacity/adjacity/Layout") (Or.inr (ow_19 hw)) (Or.inr (ow_17 hw)) (by decide) (t := .long) (t' := .long) (by decide) (by decide)
theorem od_prog_22_method_1_20 : decode prog_22_method_1_code 20 = .ok (.aload_n 0, 1) := by decide +kernel
theorem od_prog_22_method_1_21 : decode prog_22_method_1_code 21 = .ok (.lload 6, 2) := by decide +kernel
theorem od_prog_22_method_1_23 : decode prog_22_method_1_code 23 = .ok (.putfield 20, 3) := by decide +kernel
theorem ow_20 {Z : State} {a0 : Array Value} (hw : ∀ d ∈ tables_1, d.before a0 Z = true) : (Jvm.Cond.fieldLink "com/example/adjacity/adjacity/Layout" (20 : Nat) "com/example/adjacity/adjacity/Layout" "types" "J").before a0 Z = true := hw _ (List.mem_of_getElem? (i := 20) rfl)
theorem ow_21 {Z : State} {a0 : Array Value} (hw : ∀ d ∈ tables_1, d.before a0 Z = true) : (Jvm.Cond.laysFinal "com/example/adjacity/adjacity/Layout" "com/example/adjacity/adjacity/Layout" "types" "J").before a0 Z = true := hw _ (List.mem_of_getElem? (i := 21) rfl)
theorem osn_3 {Z : State} {a0 : Array Value} (hw : ∀ d ∈ tables_1, d.before a0 Z = true) : RoadKit.slotOf Z "com/example/adjacity/adjacity/Layout" "types" "J" ≠ RoadKit.slotOf Z "com/example/adjacity/adjacity/Layout" "generation" "I" := slot_ne (C := "com/example/adjacity/adjacity/Layout") (Or.inr (ow_21 hw)) (Or.inr (ow_15 hw)) (by decide) (t := .long) (t' := .int) (by decide) (by decide)
theorem osn_4 {Z : State} {a0 : Array Value} (hw : ∀ d ∈ tables_1, d.before a0 Z = true) : RoadKit.slotOf Z "com/example/adjacity/adjacity/Layout" "types" "J" ≠ RoadKit.slotOf Z "com/example/adjacity/adjacity/Layout" "nodes" "J" := slot_ne (C := "com/example/adjacity/adjacity/Layout") (Or.inr (ow_21 hw)) (Or.inr (ow_17 hw)) (by decide) (t := .long) (t' := .long) (by decide) (by decide)
theorem osn_5 {Z : State} {a0 : Array Value} (hw : ∀ d ∈ tables_1, d.before a0 Z = true) : RoadKit.slotOf Z "com/example/adjacity/adjacity/Layout" "types" "J" ≠ RoadKit.slotOf Z "com/example/adjacity/adjacity/Layout" "relationships" "J" := slot_ne (C := "com/example/adjacity/adjacity/Layout") (Or.inr (ow_21 hw)) (Or.inr (ow_19 hw)) (by decide) (t := .long) (t' := .long) (by decide) (by decide)
theorem od_prog_22_method_1_26 : decode prog_22_method_1_code 26 = .ok (.aload_n 0, 1) := by decide +kernel
theorem od_prog_22_method_1_27 : decode prog_22_method_1_code 27 = .ok (.lload 8, 2) := by decide +kernel
theorem od_prog_22_method_1_29 : decode prog_22_method_1_code 29 = .ok (.putfield 23, 3) := by decide +kernel
theorem ow_22 {Z : State} {a0 : Array Value} (hw : ∀ d ∈ tables_1, d.before a0 Z = true) : (Jvm.Cond.fieldLink "com/example/adjacity/adjacity/Layout" (23 : Nat) "com/example/adjacity/adjacity/Layout" "groups" "J").before a0 Z = true := hw _ (List.mem_of_getElem? (i := 22) rfl)
theorem ow_23 {Z : State} {a0 : Array Value} (hw : ∀ d ∈ tables_1, d.before a0 Z = true) : (Jvm.Cond.laysFinal "com/example/adjacity/adjacity/Layout" "com/example/adjacity/adjacity/Layout" "groups" "J").before a0 Z = true := hw _ (List.mem_of_getElem? (i := 23) rfl)
theorem osn_6 {Z : State} {a0 : Array Value} (hw : ∀ d ∈ tables_1, d.before a0 Z = true) : RoadKit.slotOf Z "com/example/adjacity/adjacity/Layout" "groups" "J" ≠ RoadKit.slotOf Z "com/example/adjacity/adjacity/Layout" "generation" "I" := slot_ne (C := "com/example/adjacity/adjacity/Layout") (Or.inr (ow_23 hw)) (Or.inr (ow_15 hw)) (by decide) (t := .long) (t' := .int) (by decide) (by decide)
theorem osn_7 {Z : State} {a0 : Array Value} (hw : ∀ d ∈ tables_1, d.before a0 Z = true) : RoadKit.slotOf Z "com/example/adjacity/adjacity/Layout" "groups" "J" ≠ RoadKit.slotOf Z "com/example/adjacity/adjacity/Layout" "nodes" "J" := slot_ne (C := "com/example/adjacity/adjacity/Layout") (Or.inr (ow_23 hw)) (Or.inr (ow_17 hw)) (by decide) (t := .long) (t' := .long) (by decide) (by decide)
theorem osn_8 {Z : State} {a0 : Array Value} (hw : ∀ d ∈ tables_1, d.before a0 Z = true) : RoadKit.slotOf Z "com/example/adjacity/adjacity/Layout" "groups" "J" ≠ RoadKit.slotOf Z "com/example/adjacity/adjacity/Layout" "relationships" "J" := slot_ne (C := "com/example/adjacity/adjacity/Layout") (Or.inr (ow_23 hw)) (Or.inr (ow_19 hw)) (by decide) (t := .long) (t' := .long) (by decide) (by decide)
theorem osn_9 {Z : State} {a0 : Array Value} (hw : ∀ d ∈ tables_1, d.before a0 Z = true) : RoadKit.slotOf Z "com/example/adjacity/adjacity/Layout" "groups" "J" ≠ RoadKit.slotOf Z "com/example/adjacity/adjacity/Layout" "types" "J" := slot_ne (C := "com/example/adjacity/adjacity/Layout") (Or.inr (ow_23 hw)) (Or.inr (ow_21 hw)) (by decide) (t := .long) (t' := .long) (by decide) (by decide)
theorem od_prog_22_method_1_32 : decode prog_22_method_1_code 32 = .ok (.aload_n 0, 1) := by decide +kernel
theorem od_prog_22_method_1_33 : decode prog_22_method_1_code 33 = .ok (.lload 10, 2) := by decide +kernel
theorem od_prog_22_method_1_35 : decode prog_22_method_1_code 35 = .ok (.putfield 26, 3) := by decide +kernel
theorem ow_24 {Z : State} {a0 : Array Value} (hw : ∀ d ∈ tables_1, d.before a0 Z = true) : (Jvm.Cond.fieldLink "com/example/adjacity/adjacity/Layout" (26 : Nat) "com/example/adjacity/adjacity/Layout" "keyBytes" "J").before a0 Z = true := hw _ (List.mem_of_getElem? (i := 24) rfl)
theorem ow_25 {Z : State} {a0 : Array Value} (hw : ∀ d ∈ tables_1, d.before a0 Z = true) : (Jvm.Cond.laysFinal "com/example/adjacity/adjacity/Layout" "com/example/adjacity/adjacity/Layout" "keyBytes" "J").before a0 Z = true := hw _ (List.mem_of_getElem? (i := 25) rfl)
theorem osn_10 {Z : State} {a0 : Array Value} (hw : ∀ d ∈ tables_1, d.before a0 Z = true) : RoadKit.slotOf Z "com/example/adjacity/adjacity/Layout" "keyBytes" "J" ≠ RoadKit.slotOf Z "com/example/adjacity/adjacity/Layout" "generation" "I" := slot_ne (C := "com/example/adjacity/adjacity/Layout") (Or.inr (ow_25 hw)) (Or.inr (ow_15 hw)) (by decide) (t := .long) (t' := .int) (by decide) (by decide)
theorem osn_11 {Z : State} {a0 : Array Value} (hw : ∀ d ∈ tables_1, d.before a0 Z = true) : RoadKit.slotOf Z "com/example/adjacity/adjacity/Layout" "keyBytes" "J" ≠ RoadKit.slotOf Z "com/example/adjacity/adjacity/Layout" "nodes" "J" := slot_ne (C := "com/example/adjacity/adjacity/Layout") (Or.inr (ow_25 hw)) (Or.inr (ow_17 hw)) (by decide) (t := .long) (t' := .long) (by decide) (by decide)
theorem osn_12 {Z : State} {a0 : Array Value} (hw : ∀ d ∈ tables_1, d.before a0 Z = true) : RoadKit.slotOf Z "com/example/adjacity/adjacity/Layout" "keyBytes" "J" ≠ RoadKit.slotOf Z "com/example/adjacity/adjacity/Layout" "relationships" "J" := slot_ne (C := "com/example/adjacity/adjacity/Layout") (Or.inr (ow_25 hw)) (Or.inr (ow_19 hw)) (by decide) (t := .long) (t' := .long) (by decide) (by decide)
theorem osn_13 {Z : State} {a0 : Array Value} (hw : ∀ d ∈ tables_1, d.before a0 Z = true) : RoadKit.slotOf Z "com/example/adjacity/adjacity/Layout" "keyBytes" "J" ≠ RoadKit.slotOf Z "com/example/adjacity/adjacity/Layout" "types" "J" := slot_ne (C := "com/example/adjacity/adjacity/Layout") (Or.inr (ow_25 hw)) (Or.inr (ow_21 hw)) (by decide) (t := .long) (t' := .long) (by decide) (by decide)
theorem osn_14 {Z : State} {a0 : Array Value} (hw : ∀ d ∈ tables_1, d.before a0 Z = true) : RoadKit.slotOf Z "com/example/adjacity/adjacity/Layout" "keyBytes" "J" ≠ RoadKit.slotOf Z "com/example/adjacity/adjacity/Layout" "groups" "J" := slot_ne (C := "com/example/adjacity/adjacity/Layout") (Or.inr (ow_25 hw)) (Or.inr (ow_23 hw)) (by decide) (t := .long) (t' := .long) (by decide) (by decide)
theorem od_prog_22_method_1_38 : decode prog_22_method_1_code 38 = .ok (.aload_n 0, 1) := by decide +kernel
theorem od_prog_22_method_1_39 : decode prog_22_method_1_code 39 = .ok (.lload 12, 2) := by decide +kernel
theorem od_prog_22_method_1_41 : decode prog_22_method_1_code 41 = .ok (.putfield 29, 3) := by decide +kernel
theorem ow_26 {Z : State} {a0 : Array Value} (hw : ∀ d ∈ tables_1, d.before a0 Z = true) : (Jvm.Cond.fieldLink "com/example/adjacity/adjacity/Layout" (29 : Nat) "com/example/adjacity/adjacity/Layout" "typeNameBytes" "J").before a0 Z = true := hw _ (List.mem_of_getElem? (i := 26) rfl)
theorem ow_27 {Z : State} {a0 : Array Value} (hw : ∀ d ∈ tables_1, d.before a0 Z = true) : (Jvm.Cond.laysFinal "com/example/adjacity/adjacity/Layout" "com/example/adjacity/adjacity/Layout" "typeNameBytes" "J").before a0 Z = true := hw _ (List.mem_of_getElem? (i := 27) rfl)
theorem osn_15 {Z : State} {a0 : Array Value} (hw : ∀ d ∈ tables_1, d.before a0 Z = true) : RoadKit.slotOf Z "com/example/adjacity/adjacity/Layout" "typeNameBytes" "J" ≠ RoadKit.slotOf Z "com/example/adjacity/adjacity/Layout" "generation" "I" := slot_ne (C := "com/example/adjacity/adjacity/Layout") (Or.inr (ow_27 hw)) (Or.inr (ow_15 hw)) (by decide) (t := .long) (t' := .int) (by decide) (by decide)
theorem osn_16 {Z : State} {a0 : Array Value} (hw : ∀ d ∈ tables_1, d.before a0 Z = true) : RoadKit.slotOf Z "com/example/adjacity/adjacity/Layout" "typeNameBytes" "J" ≠ RoadKit.slotOf Z "com/example/adjacity/adjacity/Layout" "nodes" "J" := slot_ne (C := "com/example/adjacity/adjacity/Layout") (Or.inr (ow_27 hw)) (Or.inr (ow_17 hw)) (by decide) (t := .long) (t' := .long) (by decide) (by decide)
theorem osn_17 {Z : State} {a0 : Array Value} (hw : ∀ d ∈ tables_1, d.before a0 Z = true) : RoadKit.slotOf Z "com/example/adjacity/adjacity/Layout" "typeNameBytes" "J" ≠ RoadKit.slotOf Z "com/example/adjacity/adjacity/Layout" "relationships" "J" := slot_ne (C := "com/example/adjacity/adjacity/Layout") (Or.inr (ow_27 hw)) (Or.inr (ow_19 hw)) (by decide) (t := .long) (t' := .long) (by decide) (by decide)
theorem osn_18 {Z : State} {a0 : Array Value} (hw : ∀ d ∈ tables_1, d.before a0 Z = true) : RoadKit.slotOf Z "com/example/adjacity/adjacity/Layout" "typeNameBytes" "J" ≠ RoadKit.slotOf Z "com/example/adjacity/adjacity/Layout" "types" "J" := slot_ne (C := "com/example/adjacity/adjacity/Layout") (Or.inr (ow_27 hw)) (Or.inr (ow_21 hw)) (by decide) (t := .long) (t' := .long) (by decide) (by decide)
theorem osn_19 {Z : State} {a0 : Array Value} (hw : ∀ d ∈ tables_1, d.before a0 Z = true) : RoadKit.slotOf Z "com/example/adjacity/adjacity/Layout" "typeNameBytes" "J" ≠ RoadKit.slotOf Z "com/example/adjacity/adjacity/Layout" "groups" "J" := slot_ne (C := "com/example/adjacity/adjacity/Layout") (Or.inr (ow_27 hw)) (Or.inr (ow_23 hw)) (by decide) (t := .long) (t' := .long) (by decide) (by decide)
theorem osn_20 {Z : State} {a0 : Array Value} (hw : ∀ d ∈ tables_1, d.before a0 Z = true) : RoadKit.slotOf Z "com/example/adjacity/adjacity/Layout" "typeNameBytes" "J" ≠ RoadKit.slotOf Z "com/example/adjacity/adjacity/Layout" "keyBytes" "J" := slot_ne (C := "com/example/adjacity/adjacity/Layout") (Or.inr (ow_27 hw)) (Or.inr (ow_25 hw)) (by decide) (t := .long) (t' := .long) (by decide) (by decide)
theorem od_prog_22_method_1_44 : decode prog_22_method_1_code 44 = .ok (.return_, 1) := by decide +kernel
theorem osn_21 {Z : State} {a0 : Array Value} (hw : ∀ d ∈ tables_1, d.before a0 Z = true) : RoadKit.slotOf Z "com/example/adjacity/adjacity/Layout" "generation" "I" ≠ RoadKit.slotOf Z "com/example/adjacity/adjacity/Layout" "nodes" "J" := slot_ne (C := "com/example/adjacity/adjacity/Layout") (Or.inr (ow_15 hw)) (Or.inr (ow_17 hw)) (by decide) (t := .int) (t' := .long) (by decide) (by decide)
theorem osn_22 {Z : State} {a0 : Array Value} (hw : ∀ d ∈ tables_1, d.before a0 Z = true) : RoadKit.slotOf Z "com/example/adjacity/adjacity/Layout" "generation" "I" ≠ RoadKit.slotOf Z "com/example/adjacity/adjacity/Layout" "relationships" "J" := slot_ne (C := "com/example/adjacity/adjacity/Layout") (Or.inr (ow_15 hw)) (Or.inr (ow_19 hw)) (by decide) (t := .int) (t' := .long) (by decide) (by decide)
theorem osn_23 {Z : State} {a0 : Array Value} (hw : ∀ d ∈ tables_1, d.before a0 Z = true) : RoadKit.slotOf Z "com/example/adjacity/adjacity/Layout" "generation" "I" ≠ RoadKit.slotOf Z "com/example/adjacity/adjacity/Layout" "types" "J" := slot_ne (C := "com/example/adjacity/adjacity/Layout") (Or.inr (ow_15 hw)) (Or.inr (ow_21 hw)) (by decide) (t := .int) (t' := .long) (by decide) (by decide)
theorem osn_24 {Z : State} {a0 : Array Value} (hw : ∀ d ∈ tables_1, d.before a0 Z = true) : RoadKit.slotOf Z "com/example/adjacity/adjacity/Layout" "generation" "I" ≠ RoadKit.slotOf Z "com/example/adjacity/adjacity/Layout" "groups" "J" := slot_ne (C := "com/example/adjacity/adjacity/Layout") (Or.inr (ow_15 hw)) (Or.inr (ow_23 hw)) (by decide) (t := .int) (t' := .long) (by decide) (by decide)
theorem osn_25 {Z : State} {a0 : Array Value} (hw : ∀ d ∈ tables_1, d.before a0 Z = true) : RoadKit.slotOf Z "com/example/adjacity/adjacity/Layout" "generation" "I" ≠ RoadKit.slotOf Z "com/example/adjacity/adjacity/Layout" "keyBytes" "J" := slot_ne (C := "com/example/adjacity/adjacity/Layout") (Or.inr (ow_15 hw)) (Or.inr (ow_25 hw)) (by decide) (t := .int) (t' := .long) (by decide) (by decide)
theorem osn_26 {Z : State} {a0 : Array Value} (hw : ∀ d ∈ tables_1, d.before a0 Z = true) : RoadKit.slotOf Z "com/example/adjacity/adjacity/Layout" "generation" "I" ≠ RoadKit.slotOf Z "com/example/adjacity/adjacity/Layout" "typeNameBytes" "J" := slot_ne (C := "com/example/adjacity/adjacity/Layout") (Or.inr (ow_15 hw)) (Or.inr (ow_27 hw)) (by decide) (t := .int) (t' := .long) (by decide) (by decide)
theorem osn_27 {Z : State} {a0 : Array Value} (hw : ∀ d ∈ tables_1, d.before a0 Z = true) : RoadKit.slotOf Z "com/example/adjacity/adjacity/Layout" "nodes" "J" ≠ RoadKit.slotOf Z "com/example/adjacity/adjacity/Layout" "relationships" "J" := slot_ne (C := "com/example/adjacity/adjacity/Layout") (Or.inr (ow_17 hw)) (Or.inr (ow_19 hw)) (by decide) (t := .long) (t' := .long) (by decide) (by decide)
theorem osn_28 {Z : State} {a0 : Array Value} (hw : ∀ d ∈ tables_1, d.before a0 Z = true) : RoadKit.slotOf Z "com/example/adjacity/adjacity/Layout" "nodes" "J" ≠ RoadKit.slotOf Z "com/example/adjacity/adjacity/Layout" "types" "J" := slot_ne (C := "com/example/adjacity/adjacity/Layout") (Or.inr (ow_17 hw)) (Or.inr (ow_21 hw)) (by decide) (t := .long) (t' := .long) (by decide) (by decide)
theorem osn_29 {Z : State} {a0 : Array Value} (hw : ∀ d ∈ tables_1, d.before a0 Z = true) : RoadKit.slotOf Z "com/example/adjacity/adjacity/Layout" "nodes" "J" ≠ RoadKit.slotOf Z "com/example/adjacity/adjacity/Layout" "groups" "J" := slot_ne (C := "com/example/adjacity/adjacity/Layout") (Or.inr (ow_17 hw)) (Or.inr (ow_23 hw)) (by decide) (t := .long) (t' := .long) (by decide) (by decide)
theorem osn_30 {Z : State} {a0 : Array Value} (hw : ∀ d ∈ tables_1, d.before a0 Z = true) : RoadKit.slotOf Z "com/example/adjacity/adjacity/Layout" "nodes" "J" ≠ RoadKit.slotOf Z "com/example/adjacity/adjacity/Layout" "keyBytes" "J" := slot_ne (C := "com/example/adjacity/adjacity/Layout") (Or.inr (ow_17 hw)) (Or.inr (ow_25 hw)) (by decide) (t := .long) (t' := .long) (by decide) (by decide)
theorem osn_31 {Z : State} {a0 : Array Value} (hw : ∀ d ∈ tables_1, d.before a0 Z = true) : RoadKit.slotOf Z "com/example/adjacity/adjacity/Layout" "nodes" "J" ≠ RoadKit.slotOf Z "com/example/adjacity/adjacity/Layout" "typeNameBytes" "J" := slot_ne (C := "com/example/adjacity/adjacity/Layout") (Or.inr (ow_17 hw)) (Or.inr (ow_27 hw)) (by decide) (t := .long) (t' := .long) (by decide) (by decide)
theorem osn_32 {Z : State} {a0 : Array Value} (hw : ∀ d ∈ tables_1, d.before a0 Z = true) : RoadKit.slotOf Z "com/example/adjacity/adjacity/Layout" "relationships" "J" ≠ RoadKit.slotOf Z "com/example/adjacity/adjacity/Layout" "types" "J" := slot_ne (C := "com/example/adjacity/adjacity/Layout") (Or.inr (ow_19 hw)) (Or.inr (ow_21 hw)) (by decide) (t := .long) (t' := .long) (by decide) (by decide)
theorem osn_33 {Z : State} {a0 : Array Value} (hw : ∀ d ∈ tables_1, d.before a0 Z = true) : RoadKit.slotOf Z "com/example/adjacity/adjacity/Layout" "relationships" "J" ≠ RoadKit.slotOf Z "com/example/adjacity/adjacity/Layout" "groups" "J" := slot_ne (C := "com/example/adjacity/adjacity/Layout") (Or.inr (ow_19 hw)) (Or.inr (ow_23 hw)) (by decide) (t := .long) (t' := .long) (by decide) (by decide)
theorem osn_34 {Z : State} {a0 : Array Value} (hw : ∀ d ∈ tables_1, d.before a0 Z = true) : RoadKit.slotOf Z "com/example/adjacity/adjacity/Layout" "relationships" "J" ≠ RoadKit.slotOf Z "com/example/adjacity/adjacity/Layout" "keyBytes" "J" := slot_ne (C := "com/example/adjacity/adjacity/Layout") (Or.inr (ow_19 hw)) (Or.inr (ow_25 hw)) (by decide) (t := .long) (t' := .long) (by decide) (by decide)
theorem osn_35 {Z : State} {a0 : Array Value} (hw : ∀ d ∈ tables_1, d.before a0 Z = true) : RoadKit.slotOf Z "com/example/adjacity/adjacity/Layout" "relationships" "J" ≠ RoadKit.slotOf Z "com/example/adjacity/adjacity/Layout" "typeNameBytes" "J" := slot_ne (C := "com/example/adjacity/adjacity/Layout") (Or.inr (ow_19 hw)) (Or.inr (ow_27 hw)) (by decide) (t := .long) (t' := .long) (by decide) (by decide)
theorem osn_36 {Z : State} {a0 : Array Value} (hw : ∀ d ∈ tables_1, d.before a0 Z = true) : RoadKit.slotOf Z "com/example/adjacity/adjacity/Layout" "types" "J" ≠ RoadKit.slotOf Z "com/example/adjacity/adjacity/Layout" "groups" "J" := slot_ne (C := "com/example/adjacity/adjacity/Layout") (Or.inr (ow_21 hw)) (Or.inr (ow_23 hw)) (by decide) (t := .long) (t' := .long) (by decide) (by decide)
theorem osn_37 {Z : State} {a0 : Array Value} (hw : ∀ d ∈ tables_1, d.before a0 Z = true) : RoadKit.slotOf Z "com/example/adjacity/adjacity/Layout" "types" "J" ≠ RoadKit.slotOf Z "com/example/adjacity/adjacity/Layout" "keyBytes" "J" := slot_ne (C := "com/example/adjacity/adjacity/Layout") (Or.inr (ow_21 hw)) (Or.inr (ow_25 hw)) (by decide) (t := .long) (t' := .long) (by decide) (by decide)
theorem osn_38 {Z : State} {a0 : Array Value} (hw : ∀ d ∈ tables_1, d.before a0 Z = true) : RoadKit.slotOf Z "com/example/adjacity/adjacity/Layout" "types" "J" ≠ RoadKit.slotOf Z "com/example/adjacity/adjacity/Layout" "typeNameBytes" "J" := slot_ne (C := "com/example/adjacity/adjacity/Layout") (Or.inr (ow_21 hw)) (Or.inr (ow_27 hw)) (by decide) (t := .long) (t' := .long) (by decide) (by decide)
theorem osn_39 {Z : State} {a0 : Array Value} (hw : ∀ d ∈ tables_1, d.before a0 Z = true) : RoadKit.slotOf Z "com/example/adjacity/adjacity/Layout" "groups" "J" ≠ RoadKit.slotOf Z "com/example/adjacity/adjacity/Layout" "keyBytes" "J" := slot_ne (C := "com/example/adjacity/adjacity/Layout") (Or.inr (ow_23 hw)) (Or.inr (ow_25 hw)) (by decide) (t := .long) (t' := .long) (by decide) (by decide)
theorem osn_40 {Z : State} {a0 : Array Value} (hw : ∀ d ∈ tables_1, d.before a0 Z = true) : RoadKit.slotOf Z "com/example/adjacity/adjacity/Layout" "groups" "J" ≠ RoadKit.slotOf Z "com/example/adjacity/adjacity/Layout" "typeNameBytes" "J" := slot_ne (C := "com/example/adjacity/adjacity/Layout") (Or.inr (ow_23 hw)) (Or.inr (ow_27 hw)) (by decide) (t := .long) (t' := .long) (by decide) (by decide)
theorem osn_41 {Z : State} {a0 : Array Value} (hw : ∀ d ∈ tables_1, d.before a0 Z = true) : RoadKit.slotOf Z "com/example/adjacity/adjacity/Layout" "keyBytes" "J" ≠ RoadKit.slotOf Z "com/example/adjacity/adjacity/Layout" "typeNameBytes" "J" := slot_ne (C := "com/example/adjacity/adjacity/Layout") (Or.inr (ow_25 hw)) (Or.inr (ow_27 hw)) (by decide) (t := .long) (t' := .long) (by decide) (by decide)
theorem opn_com_example_adjacity_adjacity_Layout : plainName "com/example/adjacity/adjacity/Layout" = true := by first | (simp [plainName, overriddenIn]; done) | decide +kernel
theorem oef_rm_init (m : MethodId) (ra : Addr) (u0 : Int32) (u1 : Int64) (u2 : Int64) (u3 : Int64) (u4 : Int64) (u5 : Int64) (u6 : Int64) : entryFrame m #[(.ref ra), (.int u0), (.long u1), (.long u2), (.long u3), (.long u4), (.long u5), (.long u6)] 14 = mkF m 0 #[.val (.ref ra), .val (.int u0), .val (.long u1), .second, .val (.long u2), .second, .val (.long u3), .second, .val (.long u4), .second, .val (.long u5), .second, .val (.long u6), .second] [] := by first | (simp [entryFrame, mkF, argsToLocals, Value.category]; done) | rfl
set_option maxRecDepth 65536 in
set_option maxHeartbeats 40000000 in
theorem rm_init (l : Launch) (Z : State) (a0 : Array Value) (hw : ∀ d ∈ tables_1, d.before a0 Z = true) (ra : Addr) (u0 : Int32) (u1 : Int64) (u2 : Int64) (u3 : Int64) (u4 : Int64) (u5 : Int64) (u6 : Int64) (w0 : Value) (w1 : Value) (w2 : Value) (w3 : Value) (w4 : Value) (w5 : Value) (w6 : Value) (h0 : Heap) (n0 : Nat) (Z0 : n0 ≤ h0.size) (P0 : Exa Z h0 ra "com/example/adjacity/adjacity/Layout") (P1 : Fld Z h0 ra "com/example/adjacity/adjacity/Layout" "generation" "I" (w0)) (P2 : Fld Z h0 ra "com/example/adjacity/adjacity/Layout" "nodes" "J" (w1)) (P3 : Fld Z h0 ra "com/example/adjacity/adjacity/Layout" "relationships" "J" (w2)) (P4 : Fld Z h0 ra "com/example/adjacity/adjacity/Layout" "types" "J" (w3)) (P5 : Fld Z h0 ra "com/example/adjacity/adjacity/Layout" "groups" "J" (w4)) (P6 : Fld Z h0 ra "com/example/adjacity/adjacity/Layout" "keyBytes" "J" (w5)) (P7 : Fld Z h0 ra "com/example/adjacity/adjacity/Layout" "typeNameBytes" "J" (w6)) (g_ra : n0 ≤ ra) :
    own_M l Z (⟨"com/example/adjacity/adjacity/Layout", "<init>", "(IJJJJJJ)V"⟩ : MethodName) prog_22_method_1_code 14 none [] ({ frames := 2, cells := 0, slots := 0, locals := 24 } : Room) #[(.ref ra), (.int u0), (.long u1), (.long u2), (.long u3), (.long u4), (.long u5), (.long u6)] h0 (fun v h L => v = none ∧ Fr n0 L ∧ (Keep h0 h [ra]) ∧ (Fld Z h ra "com/example/adjacity/adjacity/Layout" "generation" "I" (.int u0)) ∧ (Fld Z h ra "com/example/adjacity/adjacity/Layout" "nodes" "J" (.long u1)) ∧ (Fld Z h ra "com/example/adjacity/adjacity/Layout" "relationships" "J" (.long u2)) ∧ (Fld Z h ra "com/example/adjacity/adjacity/Layout" "types" "J" (.long u3)) ∧ (Fld Z h ra "com/example/adjacity/adjacity/Layout" "groups" "J" (.long u4)) ∧ (Fld Z h ra "com/example/adjacity/adjacity/Layout" "keyBytes" "J" (.long u5)) ∧ (Fld Z h ra "com/example/adjacity/adjacity/Layout" "typeNameBytes" "J" (.long u6))) 0 0 := by
  refine own_body (plainFor_of_name opn_com_example_adjacity_adjacity_Layout) ?_
  intro p e s m below meth c s1 hx hby hml hown hnm hret hlk hZ X0 e0
  rw [oef_rm_init m ra u0 u1 u2 u3 u4 u5 u6]
  have N0 := Fr.nil n0
  refine own_aloadN X0 hx (hb hby od_prog_22_method_1_0) rfl rfl (pc' := 1) rfl ?_
  refine own_callC X0 hx hZ rfl hown (ow_6 hw) (ow_7 hw) (ow_9 hw) (ow_10 hw) (by decide) (rm_rec l Z a0 hw ra h0 n0 Z0) e0 (W := 0) (by decide) (by decide) opd___V rfl (rest := []) rfl (hb hby od_prog_22_method_1_1) (Nat.le_of_eq rfl) (by rw [hml]; rfl) (by decide) (by decide) (pc' := 4) rfl ?_
  intro v1 T1 L1 X1 q1
  obtain ⟨rfl, Nq1, eh1⟩ := q1
  have N1 := Fr.app N0 Nq1
  show own_G p e below s _ _ _ (T1.setTop (mkF m 4 #[.val (.ref ra), .val (.int u0), .val (.long u1), .second, .val (.long u2), .second, .val (.long u3), .second, .val (.long u4), .second, .val (.long u5), .second, .val (.long u6), .second] []))
  refine own_aloadN X1 hx (hb hby od_prog_22_method_1_4) rfl rfl (pc' := 5) rfl ?_
  refine own_iloadN X1 hx (hb hby od_prog_22_method_1_5) rfl (pc' := 6) rfl ?_
  refine own_putF X1 hx hZ hown (ow_14 hw) eh1 P1 P0 (Or.inr ⟨(ow_15 hw), rfl, hnm⟩) (ow_1 hw) (ty := .int) (by decide) rfl rfl (hb hby od_prog_22_method_1_6) (pc' := 9) rfl ?_
  intro T2 h2 X2 e2 W2
  have N2 := Fr.snoc X2 N1 g_ra
  refine own_aloadN X2 hx (hb hby od_prog_22_method_1_9) rfl rfl (pc' := 10) rfl ?_
  refine own_lloadN X2 hx (hb hby od_prog_22_method_1_10) rfl (pc' := 11) rfl ?_
  have f3 : Fld Z h2 ra "com/example/adjacity/adjacity/Layout" "nodes" "J" (w1) := (P2.other W2 (Or.inr (osn_0 hw)))
  have f4 : Exa Z h2 ra "com/example/adjacity/adjacity/Layout" := (P0.wr W2)
  refine own_putF X2 hx hZ hown (ow_16 hw) e2 f3 f4 (Or.inr ⟨(ow_17 hw), rfl, hnm⟩) (ow_1 hw) (ty := .long) (by decide) rfl rfl (hb hby od_prog_22_method_1_11) (pc' := 14) rfl ?_
  intro T5 h5 X5 e5 W5
  have N5 := Fr.snoc X5 N2 g_ra
  refine own_aloadN X5 hx (hb hby od_prog_22_method_1_14) rfl rfl (pc' := 15) rfl ?_
  refine own_lload X5 hx (hb hby od_prog_22_method_1_15) rfl (pc' := 17) rfl ?_
  have f6 : Fld Z h5 ra "com/example/adjacity/adjacity/Layout" "relationships" "J" (w2) := ((P3.other W2 (Or.inr (osn_1 hw))).other W5 (Or.inr (osn_2 hw)))
  have f7 : Exa Z h5 ra "com/example/adjacity/adjacity/Layout" := (f4.wr W5)
  refine own_putF X5 hx hZ hown (ow_18 hw) e5 f6 f7 (Or.inr ⟨(ow_19 hw), rfl, hnm⟩) (ow_1 hw) (ty := .long) (by decide) rfl rfl (hb hby od_prog_22_method_1_17) (pc' := 20) rfl ?_
  intro T8 h8 X8 e8 W8
  have N8 := Fr.snoc X8 N5 g_ra
  refine own_aloadN X8 hx (hb hby od_prog_22_method_1_20) rfl rfl (pc' := 21) rfl ?_
  refine own_lload X8 hx (hb hby od_prog_22_method_1_21) rfl (pc' := 23) rfl ?_
  have f9 : Fld Z h8 ra "com/example/adjacity/adjacity/Layout" "types" "J" (w3) := (((P4.other W2 (Or.inr (osn_3 hw))).other W5 (Or.inr (osn_4 hw))).other W8 (Or.inr (osn_5 hw)))
  have f10 : Exa Z h8 ra "com/example/adjacity/adjacity/Layout" := (f7.wr W8)
  refine own_putF X8 hx hZ hown (ow_20 hw) e8 f9 f10 (Or.inr ⟨(ow_21 hw), rfl, hnm⟩) (ow_1 hw) (ty := .long) (by decide) rfl rfl (hb hby od_prog_22_method_1_23) (pc' := 26) rfl ?_
  intro T11 h11 X11 e11 W11
  have N11 := Fr.snoc X11 N8 g_ra
  refine own_aloadN X11 hx (hb hby od_prog_22_method_1_26) rfl rfl (pc' := 27) rfl ?_
  refine own_lload X11 hx (hb hby od_prog_22_method_1_27) rfl (pc' := 29) rfl ?_
  have f12 : Fld Z h11 ra "com/example/adjacity/adjacity/Layout" "groups" "J" (w4) := ((((P5.other W2 (Or.inr (osn_6 hw))).other W5 (Or.inr (osn_7 hw))).other W8 (Or.inr (osn_8 hw))).other W11 (Or.inr (osn_9 hw)))
  have f13 : Exa Z h11 ra "com/example/adjacity/adjacity/Layout" := (f10.wr W11)
  refine own_putF X11 hx hZ hown (ow_22 hw) e11 f12 f13 (Or.inr ⟨(ow_23 hw), rfl, hnm⟩) (ow_1 hw) (ty := .long) (by decide) rfl rfl (hb hby od_prog_22_method_1_29) (pc' := 32) rfl ?_
  intro T14 h14 X14 e14 W14
  have N14 := Fr.snoc X14 N11 g_ra
  refine own_aloadN X14 hx (hb hby od_prog_22_method_1_32) rfl rfl (pc' := 33) rfl ?_
  refine own_lload X14 hx (hb hby od_prog_22_method_1_33) rfl (pc' := 35) rfl ?_
  have f15 : Fld Z h14 ra "com/example/adjacity/adjacity/Layout" "keyBytes" "J" (w5) := (((((P6.other W2 (Or.inr (osn_10 hw))).other W5 (Or.inr (osn_11 hw))).other W8 (Or.inr (osn_12 hw))).other W11 (Or.inr (osn_13 hw))).other W14 (Or.inr (osn_14 hw)))
  have f16 : Exa Z h14 ra "com/example/adjacity/adjacity/Layout" := (f13.wr W14)
  refine own_putF X14 hx hZ hown (ow_24 hw) e14 f15 f16 (Or.inr ⟨(ow_25 hw), rfl, hnm⟩) (ow_1 hw) (ty := .long) (by decide) rfl rfl (hb hby od_prog_22_method_1_35) (pc' := 38) rfl ?_
  intro T17 h17 X17 e17 W17
  have N17 := Fr.snoc X17 N14 g_ra
  refine own_aloadN X17 hx (hb hby od_prog_22_method_1_38) rfl rfl (pc' := 39) rfl ?_
  refine own_lload X17 hx (hb hby od_prog_22_method_1_39) rfl (pc' := 41) rfl ?_
  have f18 : Fld Z h17 ra "com/example/adjacity/adjacity/Layout" "typeNameBytes" "J" (w6) := ((((((P7.other W2 (Or.inr (osn_15 hw))).other W5 (Or.inr (osn_16 hw))).other W8 (Or.inr (osn_17 hw))).other W11 (Or.inr (osn_18 hw))).other W14 (Or.inr (osn_19 hw))).other W17 (Or.inr (osn_20 hw)))
  have f19 : Exa Z h17 ra "com/example/adjacity/adjacity/Layout" := (f16.wr W17)
  refine own_putF X17 hx hZ hown (ow_26 hw) e17 f18 f19 (Or.inr ⟨(ow_27 hw), rfl, hnm⟩) (ow_1 hw) (ty := .long) (by decide) rfl rfl (hb hby od_prog_22_method_1_41) (pc' := 44) rfl ?_
  intro T20 h20 X20 e20 W20
  have N20 := Fr.snoc X20 N17 g_ra
  have k28 : Keep h0 h20 [ra] := (Keep.wr (Keep.wr (Keep.wr (Keep.wr (Keep.wr (Keep.wr (Keep.wr (Keep.refl _ _) W2 (Or.inl (List.mem_of_getElem? (i := 0) rfl))) W5 (Or.inl (List.mem_of_getElem? (i := 0) rfl))) W8 (Or.inl (List.mem_of_getElem? (i := 0) rfl))) W11 (Or.inl (List.mem_of_getElem? (i := 0) rfl))) W14 (Or.inl (List.mem_of_getElem? (i := 0) rfl))) W17 (Or.inl (List.mem_of_getElem? (i := 0) rfl))) W20 (Or.inl (List.mem_of_getElem? (i := 0) rfl)))
  have f29 : Fld Z h20 ra "com/example/adjacity/adjacity/Layout" "generation" "I" (.int u0) := (((((((P1.same W2).other W5 (Or.inr (osn_21 hw))).other W8 (Or.inr (osn_22 hw))).other W11 (Or.inr (osn_23 hw))).other W14 (Or.inr (osn_24 hw))).other W17 (Or.inr (osn_25 hw))).other W20 (Or.inr (osn_26 hw)))
  have f30 : Fld Z h20 ra "com/example/adjacity/adjacity/Layout" "nodes" "J" (.long u1) := ((((((f3.same W5).other W8 (Or.inr (osn_27 hw))).other W11 (Or.inr (osn_28 hw))).other W14 (Or.inr (osn_29 hw))).other W17 (Or.inr (osn_30 hw))).other W20 (Or.inr (osn_31 hw)))
  have f31 : Fld Z h20 ra "com/example/adjacity/adjacity/Layout" "relationships" "J" (.long u2) := (((((f6.same W8).other W11 (Or.inr (osn_32 hw))).other W14 (Or.inr (osn_33 hw))).other W17 (Or.inr (osn_34 hw))).other W20 (Or.inr (osn_35 hw)))
  have f32 : Fld Z h20 ra "com/example/adjacity/adjacity/Layout" "types" "J" (.long u3) := ((((f9.same W11).other W14 (Or.inr (osn_36 hw))).other W17 (Or.inr (osn_37 hw))).other W20 (Or.inr (osn_38 hw)))
  have f33 : Fld Z h20 ra "com/example/adjacity/adjacity/Layout" "groups" "J" (.long u4) := (((f12.same W14).other W17 (Or.inr (osn_39 hw))).other W20 (Or.inr (osn_40 hw)))
  have f34 : Fld Z h20 ra "com/example/adjacity/adjacity/Layout" "keyBytes" "J" (.long u5) := ((f15.same W17).other W20 (Or.inr (osn_41 hw)))
  exact own_retV X20 hx hret hlk (hb hby od_prog_22_method_1_44) ⟨rfl, N20, (by rw [e20]; exact k28), (by rw [e20]; exact f29), (by rw [e20]; exact f30), (by rw [e20]; exact f31), (by rw [e20]; exact f32), (by rw [e20]; exact f33), (by rw [e20]; exact f34), (by rw [e20]; exact (f18.same W20))⟩ (by decide) (by decide)
theorem od_prog_22_method_4_0 : decode prog_22_method_4_code 0 = .ok (.ldc2_w 34, 3) := by decide +kernel
theorem ow_52 {Z : State} {a0 : Array Value} (hw : ∀ d ∈ tables_1, d.before a0 Z = true) : (Jvm.Cond.constantLong "com/example/adjacity/adjacity/Layout" (34 : Nat) (64 : Int64)).before a0 Z = true := hw _ (List.mem_of_getElem? (i := 52) rfl)
theorem od_prog_22_method_4_3 : decode prog_22_method_4_code 3 = .ok (.lreturn, 1) := by decide +kernel
theorem oef_rm_keyEnds (m : MethodId) (ra : Addr) : entryFrame m #[(.ref ra)] 1 = mkF m 0 #[.val (.ref ra)] [] := by first | (simp [entryFrame, mkF, argsToLocals, Value.category]; done) | rfl
set_option maxRecDepth 65536 in
set_option maxHeartbeats 40000000 in
theorem rm_keyEnds (l : Launch) (Z : State) (a0 : Array Value) (hw : ∀ d ∈ tables_1, d.before a0 Z = true) (ra : Addr) (h0 : Heap) (n0 : Nat) (Z0 : n0 ≤ h0.size)  :
    own_M l Z (⟨"com/example/adjacity/adjacity/Layout", "keyEnds", "()J"⟩ : MethodName) prog_22_method_4_code 1 (some .long) [] ({ frames := 0, cells := 0, slots := 0, locals := 0 } : Room) #[(.ref ra)] h0 (fun v h L => v = some (.long (64 : Int64)) ∧ Fr n0 L ∧ (h = h0)) 0 0 := by
  refine own_body (plainFor_of_name opn_com_example_adjacity_adjacity_Layout) ?_
  intro p e s m below meth c s1 hx hby hml hown hnm hret hlk hZ X0 e0
  rw [oef_rm_keyEnds m ra]
  have N0 := Fr.nil n0
  refine own_ldc2 X0 hx hZ hown (ow_52 hw) (hb hby od_prog_22_method_4_0) (pc' := 3) rfl ?_
  exact own_retL X0 hx hret hlk (hb hby od_prog_22_method_4_3) ⟨rfl, N0, e0⟩ (by decide) (by decide)
theorem od_prog_22_method_5_0 : decode prog_22_method_5_code 0 = .ok (.aload_n 0, 1) := by decide +kernel
theorem od_prog_22_method_5_1 : decode prog_22_method_5_code 1 = .ok (.invokevirtual 36, 3) := by decide +kernel
theorem ow_47 {Z : State} {a0 : Array Value} (hw : ∀ d ∈ tables_1, d.before a0 Z = true) : (Jvm.Cond.methodLink "com/example/adjacity/adjacity/Layout" (36 : Nat) ({ cls := "com/example/adjacity/adjacity/Layout", name := "keyEnds", desc := "()J" } : Jvm.MethodName)).before a0 Z = true := hw _ (List.mem_of_getElem? (i := 47) rfl)
theorem ow_50 {Z : State} {a0 : Array Value} (hw : ∀ d ∈ tables_1, d.before a0 Z = true) : (Jvm.Cond.selects "com/example/adjacity/adjacity/Layout" ({ cls := "com/example/adjacity/adjacity/Layout", name := "keyEnds", desc := "()J" } : Jvm.MethodName) ({ cls := "com/example/adjacity/adjacity/Layout", name := "keyEnds", desc := "()J" } : Jvm.MethodName)).before a0 Z = true := hw _ (List.mem_of_getElem? (i := 50) rfl)
theorem opd___J : parseMethodDescriptor "()J" = some ⟨[], some .long⟩ := by decide +kernel
theorem ow_48 {Z : State} {a0 : Array Value} (hw : ∀ d ∈ tables_1, d.before a0 Z = true) : (Jvm.Cond.declares ({ cls := "com/example/adjacity/adjacity/Layout", name := "keyEnds", desc := "()J" } : Jvm.MethodName)).before a0 Z = true := hw _ (List.mem_of_getElem? (i := 48) rfl)
theorem ow_49 {Z : State} {a0 : Array Value} (hw : ∀ d ∈ tables_1, d.before a0 Z = true) : (Jvm.Cond.instanceMethod ({ cls := "com/example/adjacity/adjacity/Layout", name := "keyEnds", desc := "()J" } : Jvm.MethodName)).before a0 Z = true := hw _ (List.mem_of_getElem? (i := 49) rfl)
theorem ow_2 {Z : State} {a0 : Array Value} (hw : ∀ d ∈ tables_1, d.before a0 Z = true) : (Jvm.Cond.initialized "com/example/adjacity/adjacity/Layout").before a0 Z = true := hw _ (List.mem_of_getElem? (i := 2) rfl)
theorem ow_51 {Z : State} {a0 : Array Value} (hw : ∀ d ∈ tables_1, d.before a0 Z = true) : (Jvm.Cond.code ({ cls := "com/example/adjacity/adjacity/Layout", name := "keyEnds", desc := "()J" } : Jvm.MethodName) prog_22_method_4_code (1 : Nat) (Option.some Jvm.ClassFile.FieldType.long)).before a0 Z = true := hw _ (List.mem_of_getElem? (i := 51) rfl)
theorem od_prog_22_method_5_4 : decode prog_22_method_5_code 4 = .ok (.aload_n 0, 1) := by decide +kernel
theorem od_prog_22_method_5_5 : decode prog_22_method_5_code 5 = .ok (.getfield 13, 3) := by decide +kernel
theorem od_prog_22_method_5_8 : decode prog_22_method_5_code 8 = .ok (.ldc2_w 42, 3) := by decide +kernel
theorem ow_53 {Z : State} {a0 : Array Value} (hw : ∀ d ∈ tables_1, d.before a0 Z = true) : (Jvm.Cond.constantLong "com/example/adjacity/adjacity/Layout" (42 : Nat) (8 : Int64)).before a0 Z = true := hw _ (List.mem_of_getElem? (i := 53) rfl)
theorem od_prog_22_method_5_11 : decode prog_22_method_5_code 11 = .ok (.lmul, 1) := by decide +kernel
theorem od_prog_22_method_5_12 : decode prog_22_method_5_code 12 = .ok (.ladd, 1) := by decide +kernel
theorem od_prog_22_method_5_13 : decode prog_22_method_5_code 13 = .ok (.lreturn, 1) := by decide +kernel
theorem oef_rm_keys (m : MethodId) (ra : Addr) : entryFrame m #[(.ref ra)] 1 = mkF m 0 #[.val (.ref ra)] [] := by first | (simp [entryFrame, mkF, argsToLocals, Value.category]; done) | rfl
set_option maxRecDepth 65536 in
set_option maxHeartbeats 40000000 in
theorem rm_keys (l : Launch) (Z : State) (a0 : Array Value) (hw : ∀ d ∈ tables_1, d.before a0 Z = true) (ra : Addr) (u1 : Int64) (h0 : Heap) (n0 : Nat) (Z0 : n0 ≤ h0.size) (P0 : Exa Z h0 ra "com/example/adjacity/adjacity/Layout") (P1 : Fld Z h0 ra "com/example/adjacity/adjacity/Layout" "nodes" "J" (.long u1)) :
    own_M l Z (⟨"com/example/adjacity/adjacity/Layout", "keys", "()J"⟩ : MethodName) prog_22_method_5_code 1 (some .long) [] ({ frames := 1, cells := 0, slots := 0, locals := 12 } : Room) #[(.ref ra)] h0 (fun v h L => v = some (.long ((64 : Int64) + (u1 * (8 : Int64)))) ∧ Fr n0 L ∧ (h = h0)) 0 0 := by
  refine own_body (plainFor_of_name opn_com_example_adjacity_adjacity_Layout) ?_
  intro p e s m below meth c s1 hx hby hml hown hnm hret hlk hZ X0 e0
  rw [oef_rm_keys m ra]
  have N0 := Fr.nil n0
  refine own_aloadN X0 hx (hb hby od_prog_22_method_5_0) rfl rfl (pc' := 1) rfl ?_
  refine own_callV X0 hx hZ hown (ow_47 hw) (ow_48 hw) (ow_50 hw) (ow_49 hw) (ow_2 hw) (ow_51 hw) (by decide) P0 (rm_keyEnds l Z a0 hw ra h0 n0 Z0) e0 (W := 0) (by decide) (by decide) opd___J rfl (rest := []) rfl (hb hby od_prog_22_method_5_1) (Nat.le_of_eq rfl) (by rw [hml]; rfl) (by decide) (by decide) (pc' := 4) rfl ?_
  intro v1 T1 L1 X1 q1
  obtain ⟨rfl, Nq1, eh1⟩ := q1
  have N1 := Fr.app N0 Nq1
  show own_G p e below s _ _ _ (T1.setTop (mkF m 4 #[.val (.ref ra)] [(.long (64 : Int64))]))
  refine own_aloadN X1 hx (hb hby od_prog_22_method_5_4) rfl rfl (pc' := 5) rfl ?_
  refine own_getF X1 hx hZ hown (ow_16 hw) eh1 P1 (hb hby od_prog_22_method_5_5) (pc' := 8) rfl ?_
  intro T2 X2 e2
  refine own_ldc2 X2 hx hZ hown (ow_53 hw) (hb hby od_prog_22_method_5_8) (pc' := 11) rfl ?_
  refine own_lmul X2 hx (hb hby od_prog_22_method_5_11) (pc' := 12) rfl ?_
  refine own_ladd X2 hx (hb hby od_prog_22_method_5_12) (pc' := 13) rfl ?_
  exact own_retL X2 hx hret hlk (hb hby od_prog_22_method_5_13) ⟨rfl, N1, e2⟩ (by decide) (by decide)
theorem od_prog_22_method_13_0 : decode prog_22_method_13_code 0 = .ok (.lload_n 0, 1) := by decide +kernel
theorem od_prog_22_method_13_1 : decode prog_22_method_13_code 1 = .ok (.lneg, 1) := by decide +kernel
theorem od_prog_22_method_13_2 : decode prog_22_method_13_code 2 = .ok (.ldc2_w 69, 3) := by decide +kernel
theorem ow_60 {Z : State} {a0 : Array Value} (hw : ∀ d ∈ tables_1, d.before a0 Z = true) : (Jvm.Cond.constantLong "com/example/adjacity/adjacity/Layout" (69 : Nat) (7 : Int64)).before a0 Z = true := hw _ (List.mem_of_getElem? (i := 60) rfl)
theorem od_prog_22_method_13_5 : decode prog_22_method_13_code 5 = .ok (.land, 1) := by decide +kernel
theorem od_prog_22_method_13_6 : decode prog_22_method_13_code 6 = .ok (.l2i, 1) := by decide +kernel
theorem od_prog_22_method_13_7 : decode prog_22_method_13_code 7 = .ok (.ireturn, 1) := by decide +kernel
theorem oef_rm_padding (m : MethodId) (u0 : Int64) : entryFrame m #[(.long u0)] 2 = mkF m 0 #[.val (.long u0), .second] [] := by first | (simp [entryFrame, mkF, argsToLocals, Value.category]; done) | rfl
set_option maxRecDepth 65536 in
set_option maxHeartbeats 40000000 in
theorem rm_padding (l : Launch) (Z : State) (a0 : Array Value) (hw : ∀ d ∈ tables_1, d.before a0 Z = true) (u0 : Int64) (h0 : Heap) (n0 : Nat) (Z0 : n0 ≤ h0.size)  :
    own_M l Z (⟨"com/example/adjacity/adjacity/Layout", "padding", "(J)I"⟩ : MethodName) prog_22_method_13_code 2 (some .int) [] ({ frames := 0, cells := 0, slots := 0, locals := 0 } : Room) #[(.long u0)] h0 (fun v h L => v = some (.int (((-u0) &&& (7 : Int64)).toInt32)) ∧ Fr n0 L ∧ (h = h0)) 0 0 := by
  refine own_body (plainFor_of_name opn_com_example_adjacity_adjacity_Layout) ?_
  intro p e s m below meth c s1 hx hby hml hown hnm hret hlk hZ X0 e0
  rw [oef_rm_padding m u0]
  have N0 := Fr.nil n0
  refine own_lloadN X0 hx (hb hby od_prog_22_method_13_0) rfl (pc' := 1) rfl ?_
  refine own_lneg X0 hx (hb hby od_prog_22_method_13_1) (pc' := 2) rfl ?_
  refine own_ldc2 X0 hx hZ hown (ow_60 hw) (hb hby od_prog_22_method_13_2) (pc' := 5) rfl ?_
  refine own_land X0 hx (hb hby od_prog_22_method_13_5) (pc' := 6) rfl ?_
  refine own_l2i X0 hx (hb hby od_prog_22_method_13_6) (pc' := 7) rfl ?_
  exact own_retI X0 hx hret hlk (hb hby od_prog_22_method_13_7) ⟨rfl, N0, e0⟩ (by decide) (by decide)
theorem od_prog_22_method_14_0 : decode prog_22_method_14_code 0 = .ok (.lload_n 0, 1) := by decide +kernel
theorem od_prog_22_method_14_1 : decode prog_22_method_14_code 1 = .ok (.lload_n 0, 1) := by decide +kernel
theorem od_prog_22_method_14_2 : decode prog_22_method_14_code 2 = .ok (.invokestatic 71, 3) := by decide +kernel
theorem ow_57 {Z : State} {a0 : Array Value} (hw : ∀ d ∈ tables_1, d.before a0 Z = true) : (Jvm.Cond.methodLink "com/example/adjacity/adjacity/Layout" (71 : Nat) ({ cls := "com/example/adjacity/adjacity/Layout", name := "padding", desc := "(J)I" } : Jvm.MethodName)).before a0 Z = true := hw _ (List.mem_of_getElem? (i := 57) rfl)
theorem opd__J_I : parseMethodDescriptor "(J)I" = some ⟨[.long], some .int⟩ := by decide +kernel
theorem ow_58 {Z : State} {a0 : Array Value} (hw : ∀ d ∈ tables_1, d.before a0 Z = true) : (Jvm.Cond.static ({ cls := "com/example/adjacity/adjacity/Layout", name := "padding", desc := "(J)I" } : Jvm.MethodName)).before a0 Z = true := hw _ (List.mem_of_getElem? (i := 58) rfl)
theorem ow_59 {Z : State} {a0 : Array Value} (hw : ∀ d ∈ tables_1, d.before a0 Z = true) : (Jvm.Cond.code ({ cls := "com/example/adjacity/adjacity/Layout", name := "padding", desc := "(J)I" } : Jvm.MethodName) prog_22_method_13_code (2 : Nat) (Option.some Jvm.ClassFile.FieldType.int)).before a0 Z = true := hw _ (List.mem_of_getElem? (i := 59) rfl)
theorem od_prog_22_method_14_5 : decode prog_22_method_14_code 5 = .ok (.i2l, 1) := by decide +kernel
theorem od_prog_22_method_14_6 : decode prog_22_method_14_code 6 = .ok (.ladd, 1) := by decide +kernel
theorem od_prog_22_method_14_7 : decode prog_22_method_14_code 7 = .ok (.lreturn, 1) := by decide +kernel
theorem oef_rm_padded (m : MethodId) (u0 : Int64) : entryFrame m #[(.long u0)] 2 = mkF m 0 #[.val (.long u0), .second] [] := by first | (simp [entryFrame, mkF, argsToLocals, Value.category]; done) | rfl
set_option maxRecDepth 65536 in
set_option maxHeartbeats 40000000 in
theorem rm_padded (l : Launch) (Z : State) (a0 : Array Value) (hw : ∀ d ∈ tables_1, d.before a0 Z = true) (u0 : Int64) (h0 : Heap) (n0 : Nat) (Z0 : n0 ≤ h0.size)  :
    own_M l Z (⟨"com/example/adjacity/adjacity/Layout", "padded", "(J)J"⟩ : MethodName) prog_22_method_14_code 2 (some .long) [] ({ frames := 1, cells := 0, slots := 0, locals := 15 } : Room) #[(.long u0)] h0 (fun v h L => v = some (.long (u0 + ((((-u0) &&& (7 : Int64)).toInt32).toInt64))) ∧ Fr n0 L ∧ (h = h0)) 0 0 := by
  refine own_body (plainFor_of_name opn_com_example_adjacity_adjacity_Layout) ?_
  intro p e s m below meth c s1 hx hby hml hown hnm hret hlk hZ X0 e0
  rw [oef_rm_padded m u0]
  have N0 := Fr.nil n0
  refine own_lloadN X0 hx (hb hby od_prog_22_method_14_0) rfl (pc' := 1) rfl ?_
  refine own_lloadN X0 hx (hb hby od_prog_22_method_14_1) rfl (pc' := 2) rfl ?_
  refine own_callS X0 hx hZ hown (ow_57 hw) (ow_58 hw) (ow_2 hw) (ow_59 hw) (by decide) (rm_padding l Z a0 hw u0 h0 n0 Z0) e0 (W := 2) (by decide) (by decide) opd__J_I rfl (rest := [(.long u0)]) rfl (hb hby od_prog_22_method_14_2) (Nat.le_of_eq rfl) (by rw [hml]; rfl) (by decide) (by decide) (pc' := 5) rfl ?_
  intro v1 T1 L1 X1 q1
  obtain ⟨rfl, Nq1, eh1⟩ := q1
  have N1 := Fr.app N0 Nq1
  show own_G p e below s _ _ _ (T1.setTop (mkF m 5 #[.val (.long u0), .second] [(.int (((-u0) &&& (7 : Int64)).toInt32)), (.long u0)]))
  refine own_i2l X1 hx (hb hby od_prog_22_method_14_5) (pc' := 6) rfl ?_
  refine own_ladd X1 hx (hb hby od_prog_22_method_14_6) (pc' := 7) rfl ?_
  exact own_retL X1 hx hret hlk (hb hby od_prog_22_method_14_7) ⟨rfl, N1, eh1⟩ (by decide) (by decide)
theorem od_prog_22_method_6_0 : decode prog_22_method_6_code 0 = .ok (.aload_n 0, 1) := by decide +kernel
theorem od_prog_22_method_6_1 : decode prog_22_method_6_code 1 = .ok (.invokevirtual 44, 3) := by decide +kernel
theorem ow_42 {Z : State} {a0 : Array Value} (hw : ∀ d ∈ tables_1, d.before a0 Z = true) : (Jvm.Cond.methodLink "com/example/adjacity/adjacity/Layout" (44 : Nat) ({ cls := "com/example/adjacity/adjacity/Layout", name := "keys", desc := "()J" } : Jvm.MethodName)).before a0 Z = true := hw _ (List.mem_of_getElem? (i := 42) rfl)
theorem ow_45 {Z : State} {a0 : Array Value} (hw : ∀ d ∈ tables_1, d.before a0 Z = true) : (Jvm.Cond.selects "com/example/adjacity/adjacity/Layout" ({ cls := "com/example/adjacity/adjacity/Layout", name := "keys", desc := "()J" } : Jvm.MethodName) ({ cls := "com/example/adjacity/adjacity/Layout", name := "keys", desc := "()J" } : Jvm.MethodName)).before a0 Z = true := hw _ (List.mem_of_getElem? (i := 45) rfl)
theorem ow_43 {Z : State} {a0 : Array Value} (hw : ∀ d ∈ tables_1, d.before a0 Z = true) : (Jvm.Cond.declares ({ cls := "com/example/adjacity/adjacity/Layout", name := "keys", desc := "()J" } : Jvm.MethodName)).before a0 Z = true := hw _ (List.mem_of_getElem? (i := 43) rfl)
theorem ow_44 {Z : State} {a0 : Array Value} (hw : ∀ d ∈ tables_1, d.before a0 Z = true) : (Jvm.Cond.instanceMethod ({ cls := "com/example/adjacity/adjacity/Layout", name := "keys", desc := "()J" } : Jvm.MethodName)).before a0 Z = true := hw _ (List.mem_of_getElem? (i := 44) rfl)
theorem ow_46 {Z : State} {a0 : Array Value} (hw : ∀ d ∈ tables_1, d.before a0 Z = true) : (Jvm.Cond.code ({ cls := "com/example/adjacity/adjacity/Layout", name := "keys", desc := "()J" } : Jvm.MethodName) prog_22_method_5_code (1 : Nat) (Option.some Jvm.ClassFile.FieldType.long)).before a0 Z = true := hw _ (List.mem_of_getElem? (i := 46) rfl)
theorem od_prog_22_method_6_4 : decode prog_22_method_6_code 4 = .ok (.aload_n 0, 1) := by decide +kernel
theorem od_prog_22_method_6_5 : decode prog_22_method_6_code 5 = .ok (.getfield 26, 3) := by decide +kernel
theorem od_prog_22_method_6_8 : decode prog_22_method_6_code 8 = .ok (.invokestatic 47, 3) := by decide +kernel
theorem ow_54 {Z : State} {a0 : Array Value} (hw : ∀ d ∈ tables_1, d.before a0 Z = true) : (Jvm.Cond.methodLink "com/example/adjacity/adjacity/Layout" (47 : Nat) ({ cls := "com/example/adjacity/adjacity/Layout", name := "padded", desc := "(J)J" } : Jvm.MethodName)).before a0 Z = true := hw _ (List.mem_of_getElem? (i := 54) rfl)
theorem opd__J_J : parseMethodDescriptor "(J)J" = some ⟨[.long], some .long⟩ := by decide +kernel
theorem ow_55 {Z : State} {a0 : Array Value} (hw : ∀ d ∈ tables_1, d.before a0 Z = true) : (Jvm.Cond.static ({ cls := "com/example/adjacity/adjacity/Layout", name := "padded", desc := "(J)J" } : Jvm.MethodName)).before a0 Z = true := hw _ (List.mem_of_getElem? (i := 55) rfl)
theorem ow_56 {Z : State} {a0 : Array Value} (hw : ∀ d ∈ tables_1, d.before a0 Z = true) : (Jvm.Cond.code ({ cls := "com/example/adjacity/adjacity/Layout", name := "padded", desc := "(J)J" } : Jvm.MethodName) prog_22_method_14_code (2 : Nat) (Option.some Jvm.ClassFile.FieldType.long)).before a0 Z = true := hw _ (List.mem_of_getElem? (i := 56) rfl)
theorem od_prog_22_method_6_11 : decode prog_22_method_6_code 11 = .ok (.ladd, 1) := by decide +kernel
theorem od_prog_22_method_6_12 : decode prog_22_method_6_code 12 = .ok (.lreturn, 1) := by decide +kernel
theorem oef_rm_tne (m : MethodId) (ra : Addr) : entryFrame m #[(.ref ra)] 1 = mkF m 0 #[.val (.ref ra)] [] := by first | (simp [entryFrame, mkF, argsToLocals, Value.category]; done) | rfl
set_option maxRecDepth 65536 in
set_option maxHeartbeats 40000000 in
theorem rm_tne (l : Launch) (Z : State) (a0 : Array Value) (hw : ∀ d ∈ tables_1, d.before a0 Z = true) (ra : Addr) (u1 : Int64) (u5 : Int64) (h0 : Heap) (n0 : Nat) (Z0 : n0 ≤ h0.size) (P0 : Exa Z h0 ra "com/example/adjacity/adjacity/Layout") (P1 : Fld Z h0 ra "com/example/adjacity/adjacity/Layout" "nodes" "J" (.long u1)) (P2 : Fld Z h0 ra "com/example/adjacity/adjacity/Layout" "keyBytes" "J" (.long u5)) :
    own_M l Z (⟨"com/example/adjacity/adjacity/Layout", "typeNameEnds", "()J"⟩ : MethodName) prog_22_method_6_code 1 (some .long) [] ({ frames := 2, cells := 0, slots := 0, locals := 30 } : Room) #[(.ref ra)] h0 (fun v h L => v = some (.long (((64 : Int64) + (u1 * (8 : Int64))) + (u5 + ((((-u5) &&& (7 : Int64)).toInt32).toInt64)))) ∧ Fr n0 L ∧ (h = h0)) 0 0 := by
  refine own_body (plainFor_of_name opn_com_example_adjacity_adjacity_Layout) ?_
  intro p e s m below meth c s1 hx hby hml hown hnm hret hlk hZ X0 e0
  rw [oef_rm_tne m ra]
  have N0 := Fr.nil n0
  refine own_aloadN X0 hx (hb hby od_prog_22_method_6_0) rfl rfl (pc' := 1) rfl ?_
  refine own_callV X0 hx hZ hown (ow_42 hw) (ow_43 hw) (ow_45 hw) (ow_44 hw) (ow_2 hw) (ow_46 hw) (by decide) P0 (rm_keys l Z a0 hw ra u1 h0 n0 Z0 P0 P1) e0 (W := 0) (by decide) (by decide) opd___J rfl (rest := []) rfl (hb hby od_prog_22_method_6_1) (Nat.le_of_eq rfl) (by rw [hml]; rfl) (by decide) (by decide) (pc' := 4) rfl ?_
  intro v1 T1 L1 X1 q1
  obtain ⟨rfl, Nq1, eh1⟩ := q1
  have N1 := Fr.app N0 Nq1
  show own_G p e below s _ _ _ (T1.setTop (mkF m 4 #[.val (.ref ra)] [(.long ((64 : Int64) + (u1 * (8 : Int64))))]))
  refine own_aloadN X1 hx (hb hby od_prog_22_method_6_4) rfl rfl (pc' := 5) rfl ?_
  refine own_getF X1 hx hZ hown (ow_24 hw) eh1 P2 (hb hby od_prog_22_method_6_5) (pc' := 8) rfl ?_
  intro T2 X2 e2
  refine own_callS X2 hx hZ hown (ow_54 hw) (ow_55 hw) (ow_2 hw) (ow_56 hw) (by decide) (rm_padded l Z a0 hw u5 h0 n0 Z0) e2 (W := 2) (by decide) (by decide) opd__J_J rfl (rest := [(.long ((64 : Int64) + (u1 * (8 : Int64))))]) rfl (hb hby od_prog_22_method_6_8) (Nat.le_of_eq rfl) (by rw [hml]; rfl) (by decide) (by decide) (pc' := 11) rfl ?_
  intro v3 T3 L3 X3 q3
  obtain ⟨rfl, Nq3, eh3⟩ := q3
  have N3 := Fr.app N1 Nq3
  show own_G p e below s _ _ _ (T3.setTop (mkF m 11 #[.val (.ref ra)] [(.long (u5 + ((((-u5) &&& (7 : Int64)).toInt32).toInt64))), (.long ((64 : Int64) + (u1 * (8 : Int64))))]))
  refine own_ladd X3 hx (hb hby od_prog_22_method_6_11) (pc' := 12) rfl ?_
  exact own_retL X3 hx hret hlk (hb hby od_prog_22_method_6_12) ⟨rfl, N3, eh3⟩ (by decide) (by decide)
theorem od_prog_22_method_7_0 : decode prog_22_method_7_code 0 = .ok (.aload_n 0, 1) := by decide +kernel
theorem od_prog_22_method_7_1 : decode prog_22_method_7_code 1 = .ok (.invokevirtual 51, 3) := by decide +kernel
theorem ow_37 {Z : State} {a0 : Array Value} (hw : ∀ d ∈ tables_1, d.before a0 Z = true) : (Jvm.Cond.methodLink "com/example/adjacity/adjacity/Layout" (51 : Nat) ({ cls := "com/example/adjacity/adjacity/Layout", name := "typeNameEnds", desc := "()J" } : Jvm.MethodName)).before a0 Z = true := hw _ (List.mem_of_getElem? (i := 37) rfl)
theorem ow_40 {Z : State} {a0 : Array Value} (hw : ∀ d ∈ tables_1, d.before a0 Z = true) : (Jvm.Cond.selects "com/example/adjacity/adjacity/Layout" ({ cls := "com/example/adjacity/adjacity/Layout", name := "typeNameEnds", desc := "()J" } : Jvm.MethodName) ({ cls := "com/example/adjacity/adjacity/Layout", name := "typeNameEnds", desc := "()J" } : Jvm.MethodName)).before a0 Z = true := hw _ (List.mem_of_getElem? (i := 40) rfl)
theorem ow_38 {Z : State} {a0 : Array Value} (hw : ∀ d ∈ tables_1, d.before a0 Z = true) : (Jvm.Cond.declares ({ cls := "com/example/adjacity/adjacity/Layout", name := "typeNameEnds", desc := "()J" } : Jvm.MethodName)).before a0 Z = true := hw _ (List.mem_of_getElem? (i := 38) rfl)
theorem ow_39 {Z : State} {a0 : Array Value} (hw : ∀ d ∈ tables_1, d.before a0 Z = true) : (Jvm.Cond.instanceMethod ({ cls := "com/example/adjacity/adjacity/Layout", name := "typeNameEnds", desc := "()J" } : Jvm.MethodName)).before a0 Z = true := hw _ (List.mem_of_getElem? (i := 39) rfl)
theorem ow_41 {Z : State} {a0 : Array Value} (hw : ∀ d ∈ tables_1, d.before a0 Z = true) : (Jvm.Cond.code ({ cls := "com/example/adjacity/adjacity/Layout", name := "typeNameEnds", desc := "()J" } : Jvm.MethodName) prog_22_method_6_code (1 : Nat) (Option.some Jvm.ClassFile.FieldType.long)).before a0 Z = true := hw _ (List.mem_of_getElem? (i := 41) rfl)
theorem od_prog_22_method_7_4 : decode prog_22_method_7_code 4 = .ok (.aload_n 0, 1) := by decide +kernel
theorem od_prog_22_method_7_5 : decode prog_22_method_7_code 5 = .ok (.getfield 20, 3) := by decide +kernel
theorem od_prog_22_method_7_8 : decode prog_22_method_7_code 8 = .ok (.ldc2_w 42, 3) := by decide +kernel
theorem od_prog_22_method_7_11 : decode prog_22_method_7_code 11 = .ok (.lmul, 1) := by decide +kernel
theorem od_prog_22_method_7_12 : decode prog_22_method_7_code 12 = .ok (.ladd, 1) := by decide +kernel
theorem od_prog_22_method_7_13 : decode prog_22_method_7_code 13 = .ok (.lreturn, 1) := by decide +kernel
theorem oef_rm_tn (m : MethodId) (ra : Addr) : entryFrame m #[(.ref ra)] 1 = mkF m 0 #[.val (.ref ra)] [] := by first | (simp [entryFrame, mkF, argsToLocals, Value.category]; done) | rfl
set_option maxRecDepth 65536 in
set_option maxHeartbeats 40000000 in
theorem rm_tn (l : Launch) (Z : State) (a0 : Array Value) (hw : ∀ d ∈ tables_1, d.before a0 Z = true) (ra : Addr) (u1 : Int64) (u5 : Int64) (u3 : Int64) (h0 : Heap) (n0 : Nat) (Z0 : n0 ≤ h0.size) (P0 : Exa Z h0 ra "com/example/adjacity/adjacity/Layout") (P1 : Fld Z h0 ra "com/example/adjacity/adjacity/Layout" "nodes" "J" (.long u1)) (P2 : Fld Z h0 ra "com/example/adjacity/adjacity/Layout" "keyBytes" "J" (.long u5)) (P3 : Fld Z h0 ra "com/example/adjacity/adjacity/Layout" "types" "J" (.long u3)) :
    own_M l Z (⟨"com/example/adjacity/adjacity/Layout", "typeNames", "()J"⟩ : MethodName) prog_22_method_7_code 1 (some .long) [] ({ frames := 3, cells := 0, slots := 0, locals := 42 } : Room) #[(.ref ra)] h0 (fun v h L => v = some (.long ((((64 : Int64) + (u1 * (8 : Int64))) + (u5 + ((((-u5) &&& (7 : Int64)).toInt32).toInt64))) + (u3 * (8 : Int64)))) ∧ Fr n0 L ∧ (h = h0)) 0 0 := by
  refine own_body (plainFor_of_name opn_com_example_adjacity_adjacity_Layout) ?_
  intro p e s m below meth c s1 hx hby hml hown hnm hret hlk hZ X0 e0
  rw [oef_rm_tn m ra]
  have N0 := Fr.nil n0
  refine own_aloadN X0 hx (hb hby od_prog_22_method_7_0) rfl rfl (pc' := 1) rfl ?_
  refine own_callV X0 hx hZ hown (ow_37 hw) (ow_38 hw) (ow_40 hw) (ow_39 hw) (ow_2 hw) (ow_41 hw) (by decide) P0 (rm_tne l Z a0 hw ra u1 u5 h0 n0 Z0 P0 P1 P2) e0 (W := 0) (by decide) (by decide) opd___J rfl (rest := []) rfl (hb hby od_prog_22_method_7_1) (Nat.le_of_eq rfl) (by rw [hml]; rfl) (by decide) (by decide) (pc' := 4) rfl ?_
  intro v1 T1 L1 X1 q1
  obtain ⟨rfl, Nq1, eh1⟩ := q1
  have N1 := Fr.app N0 Nq1
  show own_G p e below s _ _ _ (T1.setTop (mkF m 4 #[.val (.ref ra)] [(.long (((64 : Int64) + (u1 * (8 : Int64))) + (u5 + ((((-u5) &&& (7 : Int64)).toInt32).toInt64))))]))
  refine own_aloadN X1 hx (hb hby od_prog_22_method_7_4) rfl rfl (pc' := 5) rfl ?_
  refine own_getF X1 hx hZ hown (ow_20 hw) eh1 P3 (hb hby od_prog_22_method_7_5) (pc' := 8) rfl ?_
  intro T2 X2 e2
  refine own_ldc2 X2 hx hZ hown (ow_53 hw) (hb hby od_prog_22_method_7_8) (pc' := 11) rfl ?_
  refine own_lmul X2 hx (hb hby od_prog_22_method_7_11) (pc' := 12) rfl ?_
  refine own_ladd X2 hx (hb hby od_prog_22_method_7_12) (pc' := 13) rfl ?_
  exact own_retL X2 hx hret hlk (hb hby od_prog_22_method_7_13) ⟨rfl, N1, e2⟩ (by decide) (by decide)
theorem own_mask (y : Int64) : (y &&& (-8 : Int64)) + (y &&& (7 : Int64)) = y := by
  apply Int64.toBitVec_inj.mp
  rw [Int64.toBitVec_add, Int64.toBitVec_and, Int64.toBitVec_and]
  have e : (-8 : Int64).toBitVec = ~~~ (7 : Int64).toBitVec := by decide
  rw [e]
  generalize y.toBitVec = b
  generalize (7 : Int64).toBitVec = mm
  have h : (b &&& ~~~ mm) &&& (b &&& mm) = 0#64 := by
    apply BitVec.eq_of_getLsbD_eq
    intro i hi
    simp only [BitVec.getLsbD_and, BitVec.getLsbD_not, BitVec.getLsbD_zero, hi, decide_true, Bool.true_and]
    cases b.getLsbD i <;> cases mm.getLsbD i <;> rfl
  rw [BitVec.add_eq_or_of_and_eq_zero _ _ h]
  apply BitVec.eq_of_getLsbD_eq
  intro i hi
  simp only [BitVec.getLsbD_and, BitVec.getLsbD_or, BitVec.getLsbD_not, hi, decide_true, Bool.true_and]
  cases b.getLsbD i <;> cases mm.getLsbD i <;> rfl
theorem own_key (n t k : Int64) : ((((64 : Int64) + (n * (8 : Int64))) + (k + (((-k) &&& (7 : Int64)).toInt32).toInt64)) + (t * (8 : Int64))) = (((64 : Int64) + ((n + t) * (8 : Int64))) + ((k + (7 : Int64)) &&& (-8 : Int64))) := by
  have m1 := c_maskL (-k) 7 3 (by decide) (by decide)
  have n1 := c_lneg k
  have q1 := c_l2i ((-k) &&& 7)
  have q2 := c_i2l (((-k) &&& 7).toInt32)
  have r1 := rng32 (((-k) &&& 7).toInt32)
  have r2 := rng64 (-k)
  have a1 := c_ladd k (((-k) &&& 7).toInt32).toInt64
  have b1 := c_ladd k 7
  have b2 := c_maskL (k + 7) 7 3 (by decide) (by decide)
  have b3 := c_ladd ((k + 7) &&& (-8 : Int64)) ((k + 7) &&& (7 : Int64))
  rw [own_mask (k + 7)] at b3
  have l1 := c_lmul n 8
  have l2 := c_lmul t 8
  have l3 := c_ladd n t
  have l4 := c_lmul (n + t) 8
  have l5 := c_ladd 64 (n * 8)
  have l6 := c_ladd ((64 : Int64) + (n * 8)) (k + (((-k) &&& 7).toInt32).toInt64)
  have l7 := c_ladd (((64 : Int64) + (n * 8)) + (k + (((-k) &&& 7).toInt32).toInt64)) (t * 8)
  have l8 := c_ladd 64 ((n + t) * 8)
  have l9 := c_ladd ((64 : Int64) + ((n + t) * 8)) ((k + 7) &&& (-8 : Int64))
  have s1 := rng64 ((((64 : Int64) + (n * 8)) + (k + (((-k) &&& 7).toInt32).toInt64)) + (t * 8))
  have s2 := rng64 (((64 : Int64) + ((n + t) * 8)) + ((k + 7) &&& (-8 : Int64)))
  simp only [Int64.reduceToInt] at b1 l1 l2 l4 l5 l8
  rw [← Int64.toInt_inj]
  omega
theorem ow_0 {Z : State} {a0 : Array Value} (hw : ∀ d ∈ tables_1, d.before a0 Z = true) : (Jvm.Cond.classLink "com/example/adjacity/adjacity/LayoutTypeNamesPinLaw" (7 : Nat) "com/example/adjacity/adjacity/Layout").before a0 Z = true := hw _ (List.mem_of_getElem? (i := 0) rfl)
theorem ow_3 {Z : State} {a0 : Array Value} (hw : ∀ d ∈ tables_1, d.before a0 Z = true) : (Jvm.Cond.methodLink "com/example/adjacity/adjacity/LayoutTypeNamesPinLaw" (9 : Nat) ({ cls := "com/example/adjacity/adjacity/Layout", name := "<init>", desc := "(IJJJJJJ)V" } : Jvm.MethodName)).before a0 Z = true := hw _ (List.mem_of_getElem? (i := 3) rfl)
theorem opd__IJJJJJJ_V : parseMethodDescriptor "(IJJJJJJ)V" = some ⟨[.int, .long, .long, .long, .long, .long, .long], none⟩ := by decide +kernel
theorem ow_4 {Z : State} {a0 : Array Value} (hw : ∀ d ∈ tables_1, d.before a0 Z = true) : (Jvm.Cond.instanceMethod ({ cls := "com/example/adjacity/adjacity/Layout", name := "<init>", desc := "(IJJJJJJ)V" } : Jvm.MethodName)).before a0 Z = true := hw _ (List.mem_of_getElem? (i := 4) rfl)
theorem ow_5 {Z : State} {a0 : Array Value} (hw : ∀ d ∈ tables_1, d.before a0 Z = true) : (Jvm.Cond.code ({ cls := "com/example/adjacity/adjacity/Layout", name := "<init>", desc := "(IJJJJJJ)V" } : Jvm.MethodName) prog_22_method_1_code (14 : Nat) (Option.none : Option Jvm.ClassFile.FieldType)).before a0 Z = true := hw _ (List.mem_of_getElem? (i := 5) rfl)
theorem ow_28 {Z : State} {a0 : Array Value} (hw : ∀ d ∈ tables_1, d.before a0 Z = true) : (Jvm.Cond.constantLong "com/example/adjacity/adjacity/LayoutTypeNamesPinLaw" (12 : Nat) (7 : Int64)).before a0 Z = true := hw _ (List.mem_of_getElem? (i := 28) rfl)
theorem ow_29 {Z : State} {a0 : Array Value} (hw : ∀ d ∈ tables_1, d.before a0 Z = true) : (Jvm.Cond.constantLong "com/example/adjacity/adjacity/LayoutTypeNamesPinLaw" (14 : Nat) (-8 : Int64)).before a0 Z = true := hw _ (List.mem_of_getElem? (i := 29) rfl)
theorem ow_30 {Z : State} {a0 : Array Value} (hw : ∀ d ∈ tables_1, d.before a0 Z = true) : (Jvm.Cond.constantLong "com/example/adjacity/adjacity/LayoutTypeNamesPinLaw" (16 : Nat) (64 : Int64)).before a0 Z = true := hw _ (List.mem_of_getElem? (i := 30) rfl)
theorem ow_31 {Z : State} {a0 : Array Value} (hw : ∀ d ∈ tables_1, d.before a0 Z = true) : (Jvm.Cond.constantLong "com/example/adjacity/adjacity/LayoutTypeNamesPinLaw" (18 : Nat) (8 : Int64)).before a0 Z = true := hw _ (List.mem_of_getElem? (i := 31) rfl)
theorem ow_32 {Z : State} {a0 : Array Value} (hw : ∀ d ∈ tables_1, d.before a0 Z = true) : (Jvm.Cond.methodLink "com/example/adjacity/adjacity/LayoutTypeNamesPinLaw" (20 : Nat) ({ cls := "com/example/adjacity/adjacity/Layout", name := "typeNames", desc := "()J" } : Jvm.MethodName)).before a0 Z = true := hw _ (List.mem_of_getElem? (i := 32) rfl)
theorem ow_35 {Z : State} {a0 : Array Value} (hw : ∀ d ∈ tables_1, d.before a0 Z = true) : (Jvm.Cond.selects "com/example/adjacity/adjacity/Layout" ({ cls := "com/example/adjacity/adjacity/Layout", name := "typeNames", desc := "()J" } : Jvm.MethodName) ({ cls := "com/example/adjacity/adjacity/Layout", name := "typeNames", desc := "()J" } : Jvm.MethodName)).before a0 Z = true := hw _ (List.mem_of_getElem? (i := 35) rfl)
theorem ow_33 {Z : State} {a0 : Array Value} (hw : ∀ d ∈ tables_1, d.before a0 Z = true) : (Jvm.Cond.declares ({ cls := "com/example/adjacity/adjacity/Layout", name := "typeNames", desc := "()J" } : Jvm.MethodName)).before a0 Z = true := hw _ (List.mem_of_getElem? (i := 33) rfl)
theorem ow_34 {Z : State} {a0 : Array Value} (hw : ∀ d ∈ tables_1, d.before a0 Z = true) : (Jvm.Cond.instanceMethod ({ cls := "com/example/adjacity/adjacity/Layout", name := "typeNames", desc := "()J" } : Jvm.MethodName)).before a0 Z = true := hw _ (List.mem_of_getElem? (i := 34) rfl)
theorem ow_36 {Z : State} {a0 : Array Value} (hw : ∀ d ∈ tables_1, d.before a0 Z = true) : (Jvm.Cond.code ({ cls := "com/example/adjacity/adjacity/Layout", name := "typeNames", desc := "()J" } : Jvm.MethodName) prog_22_method_7_code (1 : Nat) (Option.some Jvm.ClassFile.FieldType.long)).before a0 Z = true := hw _ (List.mem_of_getElem? (i := 36) rfl)
theorem opn_com_example_adjacity_adjacity_LayoutTypeNamesPinLaw : plainName "com/example/adjacity/adjacity/LayoutTypeNamesPinLaw" = true := by first | (simp [plainName, overriddenIn]; done) | decide +kernel
theorem oef_law (m : MethodId) (u0 : Int32) (u1 : Int64) (u2 : Int64) (u3 : Int64) (u4 : Int64) (u5 : Int64) : entryFrame m #[(.int u0), (.long u1), (.long u2), (.long u3), (.long u4), (.long u5)] maxLocals = mkF m 0 #[.val (.int u0), .val (.long u1), .second, .val (.long u2), .second, .val (.long u3), .second, .val (.long u4), .second, .val (.long u5), .second, .unset, .unset, .unset, .unset, .unset, .unset, .unset] [] := by first | (simp [entryFrame, mkF, argsToLocals, Value.category, maxLocals]; done) | rfl
set_option maxRecDepth 65536 in
set_option maxHeartbeats 40000000 in
theorem own_law (l : Launch) (Z : State) (a0 : Array Value) (hw : ∀ d ∈ tables_1, d.before a0 Z = true) (u0 : Int32) (u1 : Int64) (u2 : Int64) (u3 : Int64) (u4 : Int64) (u5 : Int64) (h0 : Heap) (n0 : Nat) (Z0 : n0 ≤ h0.size) :
    own_M l Z x code maxLocals ret tables_1 room_1 #[(.int u0), (.long u1), (.long u2), (.long u3), (.long u4), (.long u5)] h0 (fun v h L => v = some (.int 1) ∧ Fr n0 L) 1 7 := by
  refine own_body (plainFor_of_name opn_com_example_adjacity_adjacity_LayoutTypeNamesPinLaw) ?_
  intro p e s m below meth c s1 hx hby hml' hown hnm hret hlk hZ X0 e0
  have hml : c.maxLocals = 18 := hml'
  rw [oef_law m u0 u1 u2 u3 u4 u5]
  have N0 := Fr.nil n0
  refine own_lloadN X0 hx (hb hby at_0) rfl (pc' := 1) rfl ?_
  refine own_lload X0 hx (hb hby at_1) rfl (pc' := 3) rfl ?_
  refine own_lxor X0 hx (hb hby at_3) (pc' := 4) rfl ?_
  refine own_lstore X0 hx (hb hby at_4) (l' := #[.val (.int u0), .val (.long u1), .second, .val (.long u2), .second, .val (.long u3), .second, .val (.long u4), .second, .val (.long u5), .second, .val (.long (u2 ^^^ u4)), .second, .unset, .unset, .unset, .unset, .unset]) rfl (pc' := 6) rfl ?_
  refine own_new X0 hx hZ hown (ow_0 hw) (ow_1 hw) (ow_2 hw) e0 (hb hby at_6) (pc' := 9) rfl (by decide) (by decide) ?_
  intro T1 h1 a1 g1 X1 e1 E1 A1 D1
  have ge_a1 : n0 ≤ a1 := by rw [g1]; exact Z0
  have F1_generation : Fld Z h1 a1 "com/example/adjacity/adjacity/Layout" "generation" "I" (.int (0 : Int32)) := D1 (Or.inr (ow_15 hw)) (ty := .int) (by decide)
  have F1_nodes : Fld Z h1 a1 "com/example/adjacity/adjacity/Layout" "nodes" "J" (.long (0 : Int64)) := D1 (Or.inr (ow_17 hw)) (ty := .long) (by decide)
  have F1_relationships : Fld Z h1 a1 "com/example/adjacity/adjacity/Layout" "relationships" "J" (.long (0 : Int64)) := D1 (Or.inr (ow_19 hw)) (ty := .long) (by decide)
  have F1_types : Fld Z h1 a1 "com/example/adjacity/adjacity/Layout" "types" "J" (.long (0 : Int64)) := D1 (Or.inr (ow_21 hw)) (ty := .long) (by decide)
  have F1_groups : Fld Z h1 a1 "com/example/adjacity/adjacity/Layout" "groups" "J" (.long (0 : Int64)) := D1 (Or.inr (ow_23 hw)) (ty := .long) (by decide)
  have F1_keyBytes : Fld Z h1 a1 "com/example/adjacity/adjacity/Layout" "keyBytes" "J" (.long (0 : Int64)) := D1 (Or.inr (ow_25 hw)) (ty := .long) (by decide)
  have F1_typeNameBytes : Fld Z h1 a1 "com/example/adjacity/adjacity/Layout" "typeNameBytes" "J" (.long (0 : Int64)) := D1 (Or.inr (ow_27 hw)) (ty := .long) (by decide)
  refine own_dup X1 hx (hb hby at_9) rfl (pc' := 10) rfl ?_
  refine own_iloadN X1 hx (hb hby at_10) rfl (pc' := 11) rfl ?_
  refine own_lloadN X1 hx (hb hby at_11) rfl (pc' := 12) rfl ?_
  refine own_lloadN X1 hx (hb hby at_12) rfl (pc' := 13) rfl ?_
  refine own_lload X1 hx (hb hby at_13) rfl (pc' := 15) rfl ?_
  refine own_lload X1 hx (hb hby at_15) rfl (pc' := 17) rfl ?_
  refine own_lload X1 hx (hb hby at_17) rfl (pc' := 19) rfl ?_
  refine own_lload X1 hx (hb hby at_19) rfl (pc' := 21) rfl ?_
  have z3 : n0 ≤ h1.size := (Nat.le_trans Z0 E1.1)
  refine own_callC X1 hx hZ rfl hown (ow_3 hw) (ow_4 hw) (ow_2 hw) (ow_5 hw) (by decide) (rm_init l Z a0 hw a1 u0 u1 u2 u3 u4 u5 (u2 ^^^ u4) (.int (0 : Int32)) (.long (0 : Int64)) (.long (0 : Int64)) (.long (0 : Int64)) (.long (0 : Int64)) (.long (0 : Int64)) (.long (0 : Int64)) h1 n0 z3 A1 F1_generation F1_nodes F1_relationships F1_types F1_groups F1_keyBytes F1_typeNameBytes ge_a1) e1 (W := 1) (by decide) (by decide) opd__IJJJJJJ_V rfl (rest := [(.ref a1)]) rfl (hb hby at_21) (Nat.le_of_eq rfl) (by rw [hml]; rfl) (by decide) (by decide) (pc' := 24) rfl ?_
  intro v2 T2 L2 X2 q2
  obtain ⟨rfl, Nq2, K2, p2_0, p2_1, p2_2, p2_3, p2_4, p2_5, p2_6⟩ := q2
  have N2 := Fr.app N0 Nq2
  show own_G p e below s _ _ _ (T2.setTop (mkF m 24 #[.val (.int u0), .val (.long u1), .second, .val (.long u2), .second, .val (.long u3), .second, .val (.long u4), .second, .val (.long u5), .second, .val (.long (u2 ^^^ u4)), .second, .unset, .unset, .unset, .unset, .unset] [(.ref a1)]))
  refine own_astore X2 hx (hb hby at_24) rfl (l' := #[.val (.int u0), .val (.long u1), .second, .val (.long u2), .second, .val (.long u3), .second, .val (.long u4), .second, .val (.long u5), .second, .val (.long (u2 ^^^ u4)), .second, .val (.ref a1), .unset, .unset, .unset, .unset]) rfl (pc' := 26) rfl ?_
  refine own_lload X2 hx (hb hby at_26) rfl (pc' := 28) rfl ?_
  refine own_ldc2 X2 hx hZ hown (ow_28 hw) (hb hby at_28) (pc' := 31) rfl ?_
  refine own_ladd X2 hx (hb hby at_31) (pc' := 32) rfl ?_
  refine own_ldc2 X2 hx hZ hown (ow_29 hw) (hb hby at_32) (pc' := 35) rfl ?_
  refine own_land X2 hx (hb hby at_35) (pc' := 36) rfl ?_
  refine own_lstore X2 hx (hb hby at_36) (l' := #[.val (.int u0), .val (.long u1), .second, .val (.long u2), .second, .val (.long u3), .second, .val (.long u4), .second, .val (.long u5), .second, .val (.long (u2 ^^^ u4)), .second, .val (.ref a1), .val (.long ((u5 + (7 : Int64)) &&& (-8 : Int64))), .second, .unset, .unset]) rfl (pc' := 38) rfl ?_
  refine own_ldc2 X2 hx hZ hown (ow_30 hw) (hb hby at_38) (pc' := 41) rfl ?_
  refine own_lloadN X2 hx (hb hby at_41) rfl (pc' := 42) rfl ?_
  refine own_lload X2 hx (hb hby at_42) rfl (pc' := 44) rfl ?_
  refine own_ladd X2 hx (hb hby at_44) (pc' := 45) rfl ?_
  refine own_ldc2 X2 hx hZ hown (ow_31 hw) (hb hby at_45) (pc' := 48) rfl ?_
  refine own_lmul X2 hx (hb hby at_48) (pc' := 49) rfl ?_
  refine own_ladd X2 hx (hb hby at_49) (pc' := 50) rfl ?_
  refine own_lload X2 hx (hb hby at_50) rfl (pc' := 52) rfl ?_
  refine own_ladd X2 hx (hb hby at_52) (pc' := 53) rfl ?_
  refine own_lstore X2 hx (hb hby at_53) (l' := #[.val (.int u0), .val (.long u1), .second, .val (.long u2), .second, .val (.long u3), .second, .val (.long u4), .second, .val (.long u5), .second, .val (.long (u2 ^^^ u4)), .second, .val (.ref a1), .val (.long ((u5 + (7 : Int64)) &&& (-8 : Int64))), .second, .val (.long (((64 : Int64) + ((u1 + u3) * (8 : Int64))) + ((u5 + (7 : Int64)) &&& (-8 : Int64)))), .second]) rfl (pc' := 55) rfl ?_
  refine own_aload X2 hx (hb hby at_55) rfl rfl (pc' := 57) rfl ?_
  have f5 : Exa Z T2.heap a1 "com/example/adjacity/adjacity/Layout" := (A1.keep K2)
  have z6 : n0 ≤ T2.heap.size := (Nat.le_trans z3 K2.1)
  refine own_callV X2 hx hZ hown (ow_32 hw) (ow_33 hw) (ow_35 hw) (ow_34 hw) (ow_2 hw) (ow_36 hw) (by decide) f5 (rm_tn l Z a0 hw a1 u1 u5 u3 T2.heap n0 z6 f5 p2_1 p2_5 p2_3) rfl (W := 0) (by decide) (by decide) opd___J rfl (rest := []) rfl (hb hby at_57) (Nat.le_of_eq rfl) (by rw [hml]; rfl) (by decide) (by decide) (pc' := 60) rfl ?_
  intro v4 T4 L4 X4 q4
  obtain ⟨rfl, Nq4, eh4⟩ := q4
  have N4 := Fr.app N2 Nq4
  show own_G p e below s _ _ _ (T4.setTop (mkF m 60 #[.val (.int u0), .val (.long u1), .second, .val (.long u2), .second, .val (.long u3), .second, .val (.long u4), .second, .val (.long u5), .second, .val (.long (u2 ^^^ u4)), .second, .val (.ref a1), .val (.long ((u5 + (7 : Int64)) &&& (-8 : Int64))), .second, .val (.long (((64 : Int64) + ((u1 + u3) * (8 : Int64))) + ((u5 + (7 : Int64)) &&& (-8 : Int64)))), .second] [(.long ((((64 : Int64) + (u1 * (8 : Int64))) + (u5 + ((((-u5) &&& (7 : Int64)).toInt32).toInt64))) + (u3 * (8 : Int64))))]))
  refine own_lload X4 hx (hb hby at_60) rfl (pc' := 62) rfl ?_
  refine own_lcmp X4 hx (hb hby at_62) (pc' := 63) rfl ?_
  refine own_ifF X4 hx (hb hby at_63) (own_eqL (own_key u1 u3 u5)).2 (pc' := 66) rfl ?_
  refine own_iconst X4 hx (hb hby at_66) (z := (1 : Int32)) rfl (pc' := 67) rfl ?_
  refine own_goto X4 hx (hb hby at_67) (by decide) (pc' := 71) rfl ?_
  exact own_retZ X4 hx hret hlk (Or.inr rfl) (hb hby at_71) ⟨rfl, N4⟩ (by decide) (by decide)
set_option maxRecDepth 65536 in
set_option maxHeartbeats 40000000 in
theorem comes_1 {Post : Tables → Env → Array Value → State → Outcome → State → Prop} (hpost : ∀ tb e args s v u, (limb_1_1.after args s (.returned v) u = true ∧ limb_1_2.after args s (.returned v) u = true ∧ True) → FrameEnd s (.returned v) u (Jvm.fieldLocs frame_1_writes args s ++ Jvm.arrayLocs frame_1_arrays args s ++ Jvm.staticLocs frame_1_statics s) 16 128 → Post tb e args s (.returned v) u) :
    ArmFor flags0 classFile x code maxLocals ret World_1 tables_1 room_1 Calls_1 rest_1 Pre_1 Post := by
  intro l hfl _ _ p e ha hc hk s m args below hf hA hF happ hP
  obtain ⟨hcalls, hrest, hpre⟩ := hP
  obtain ⟨-, -, -, hnamed, -, -, -, hat⟩ := (Spec.applies_iff hf).mp happ
  obtain ⟨hg, hn⟩ := and_e (Cond.before_iff.mp (show (Jvm.Cond.and given_1 narrow_1).before args s = true from hpre))
  obtain ⟨gc, gr0⟩ := and_e hg
  obtain ⟨gk0, gr1⟩ := and_e gr0
  obtain ⟨gk1, gr2⟩ := and_e gr1
  obtain ⟨gk2, gr3⟩ := and_e gr2
  obtain ⟨gk3, gr4⟩ := and_e gr3
  obtain ⟨gk4, gr5⟩ := and_e gr4
  obtain ⟨w0, w1, w2, w3, w4, w5, rfl⟩ : ∃ w0 w1 w2 w3 w4 w5 : Value, args = #[w0, w1, w2, w3, w4, w5] := by
    have hs : args.size = 6 := by simpa [Cond.value, given_1] using gc
    obtain ⟨L⟩ := args
    match L, hs with
    | [w0, w1, w2, w3, w4, w5], _ => exact ⟨w0, w1, w2, w3, w4, w5, rfl⟩
  have hw := fun d (hd : d ∈ tables_1) => atoms_spec (ws := Jvm.Cond.code x code maxLocals ret :: tables_1) hat d (List.mem_cons_of_mem _ hd)
  obtain ⟨i0, ei0⟩ := is_v gk0
  obtain rfl : w0 = (.int i0) := Option.some.inj ei0
  obtain ⟨i1, ei1⟩ := isL_v gk1
  obtain rfl : w1 = (.long i1) := Option.some.inj ei1
  obtain ⟨i2, ei2⟩ := isL_v gk2
  obtain rfl : w2 = (.long i2) := Option.some.inj ei2
  obtain ⟨i3, ei3⟩ := isL_v gk3
  obtain rfl : w3 = (.long i3) := Option.some.inj ei3
  obtain ⟨i4, ei4⟩ := isL_v gk4
  obtain rfl : w4 = (.long i4) := Option.some.inj ei4
  obtain ⟨i5, ei5⟩ := isL_v gr5
  obtain rfl : w5 = (.long i5) := Option.some.inj ei5
  obtain ⟨n, o, h1, h2, h3, _, L, rfl, ⟨rfl, N⟩, hq⟩ := own_law l s _ hw i0 i1 i2 i3 i4 i5 s.heap s.heap.size (Nat.le_refl _) p e ha hc hk s m _ below hf ((Spec.applies_iff_loose hf).mp happ).1 ⟨rfl, State.Warmed39.refl s, rfl⟩ trivial
  refine ⟨n, _, h1, h2, h3, hpost _ _ _ _ _ _ ⟨Cond.after_iff.mpr rfl, Cond.after_iff.mpr (eq_i res_at (Term.int_eval (1)) rfl), trivial⟩ ⟨hq.1, hq.2.1, (hq.2.2.sift fun y hy => Or.inr (N y hy)).mono (by decide) (by decide)⟩⟩
theorem main_1_1 : Claimed_1_1 := comes_1 fun _ _ _ _ _ _ h hF => ⟨h.1, hF⟩
theorem main_1_2 : Claimed_1_2 := comes_1 fun _ _ _ _ _ _ h hF => ⟨h.2.1, hF⟩
end Jvm.Pilot.@@N@@
namespace Jvm.Pilot.@@N@@
open Jvm Jvm.ClassFile Sem Op Lib Jvm.Free Jvm.Stand Jvm.Pilot.@@N@@.Jvm.D
/-! MADE BY PROGRAM (witnessworld.py) out of the Statement's table words and the real class files: 10 classes; the members and pool entries that the words name. The judged class is class 1, her method 1. -/
namespace start1
open Jvm.ClassFile
def u (s : String) : CpInfo := .utf8 (stringToUtf16 s)
/-- a pool by its gaps: so many unusable entries, then the entry; so many at the end -/
def gap : Nat → List CpInfo → List CpInfo
  | 0, r => r
  | n + 1, r => .unusable :: gap n r
def poolList (es : List (Nat × CpInfo)) (last : Nat) : List CpInfo := es.foldr (fun e r => gap e.1 (e.2 :: r)) (gap last [])
def pool (es : List (Nat × CpInfo)) (last : Nat) : Array CpInfo := ⟨poolList es last⟩
def fileOf (pool : Array CpInfo) (this : Nat) (attrs : Array Attribute := #[]) (ms : Array MethodInfo := #[]) (fl : Nat := 33) (sup : Nat := 0) (ifs : Array Nat := #[]) (fds : Array FieldInfo := #[]) : ClassFile where
  minorVersion := 0
  majorVersion := 65
  constantPool := pool
  accessFlags := fl
  thisClass := this
  superClass := sup
  interfaces := ifs
  fields := fds
  methods := ms
  attributes := attrs
def plain (name : String) (sup : Option ClassId) : Class where
  name := name
  kind := .ordinary
  loader := none
  accessFlags := 33
  super := sup
  interfaces := #[]
  cf := none
  fields := #[]
  methods := #[]
  instanceTypes := #[]
  staticTypes := #[]
  resolved := #[]
  callSites := []
  init := .initialized
  statics := none
  mirror := none

def pool0 : Array CpInfo := pool [(5, u "<init>"), (0, u "()V"), (1, .class_ 10), (1, u "java/lang/Object")] 113

def k0c0 : Code := { maxStack := 0, maxLocals := 1, code := object_method_1_code, exceptionTable := #[], attributes := #[] }
def k0m0 : Method := { name := "<init>", desc := "()V", sig := { parameters := [], returnType := none }, accessFlags := 1, code := some k0c0 }
/-- java/lang/Object -/
def k0 : Class := { plain "java/lang/Object" none with
  accessFlags := 33
  interfaces := #[]
  cf := some (fileOf pool0 8 #[] #[{ accessFlags := 1, nameIndex := 5, descriptorIndex := 6, attributes := #[] }] 33 0 #[] #[])
  fields := #[]
  methods := #[k0m0]
  instanceTypes := #[]
  staticTypes := #[]
  resolved := Array.replicate 124 none
  statics := none }

def pool1 : Array CpInfo := pool [(2, .class_ 4), (1, u "java/lang/Object"), (0, u "<init>"), (0, u "()V"), (0, .class_ 8), (0, u "com/example/adjacity/adjacity/Layout"), (0, .methodref 7 10), (0, .nameAndType 5 11), (0, u "(IJJJJJJ)V"), (0, .long 7), (1, .long 18446744073709551608), (1, .long 64), (1, .long 8), (1, .methodref 7 21), (0, .nameAndType 22 23), (0, u "typeNames"), (0, u "()J"), (0, .class_ 25), (0, u "com/example/adjacity/adjacity/LayoutTypeNamesPinLaw"), (2, u "law"), (0, u "(IJJJJJ)Z")] 3

def k1m0 : Method := { name := "<init>", desc := "()V", sig := { parameters := [], returnType := none }, accessFlags := 2, code := none }
def k1c1 : Code := { maxStack := 15, maxLocals := 18, code := code, exceptionTable := #[], attributes := #[] }
def k1m1 : Method := { name := "law", desc := "(IJJJJJ)Z", sig := { parameters := [.int, .long, .long, .long, .long, .long], returnType := some .boolean }, accessFlags := 9, code := some k1c1 }
/-- com/example/adjacity/adjacity/LayoutTypeNamesPinLaw -/
def k1 : Class := { plain "com/example/adjacity/adjacity/LayoutTypeNamesPinLaw" (some 0) with
  accessFlags := 49
  interfaces := #[]
  cf := some (fileOf pool1 24 #[] #[{ accessFlags := 2, nameIndex := 5, descriptorIndex := 6, attributes := #[] }, { accessFlags := 9, nameIndex := 28, descriptorIndex := 29, attributes := #[] }] 49 2 #[] #[])
  fields := #[]
  methods := #[k1m0, k1m1]
  instanceTypes := #[]
  staticTypes := #[]
  resolved := Array.replicate 33 none
  statics := none }

def pool2 : Array CpInfo := pool [(1, .methodref 2 3), (0, .class_ 4), (0, .nameAndType 5 6), (0, u "java/lang/Object"), (0, u "<init>"), (0, u "()V"), (0, .class_ 8), (0, u "java/lang/Record")] 13

def k2c0 : Code := { maxStack := 1, maxLocals := 1, code := jdk_30_method_1_code, exceptionTable := #[], attributes := #[] }
def k2m0 : Method := { name := "<init>", desc := "()V", sig := { parameters := [], returnType := none }, accessFlags := 4, code := some k2c0 }
/-- java/lang/Record -/
def k2 : Class := { plain "java/lang/Record" (some 0) with
  accessFlags := 1057
  interfaces := #[]
  cf := some (fileOf pool2 7 #[] #[{ accessFlags := 4, nameIndex := 5, descriptorIndex := 6, attributes := #[] }] 1057 2 #[] #[])
  fields := #[]
  methods := #[k2m0]
  instanceTypes := #[]
  staticTypes := #[]
  resolved := Array.replicate 22 none
  statics := none }

def pool3 : Array CpInfo := pool [(1, .methodref 2 3), (0, .class_ 4), (0, .nameAndType 5 6), (0, u "java/lang/Record"), (0, u "<init>"), (0, u "()V"), (0, .fieldref 8 9), (0, .class_ 10), (0, .nameAndType 11 12), (0, u "com/example/adjacity/adjacity/Layout"), (0, u "generation"), (0, u "I"), (0, .fieldref 8 14), (0, .nameAndType 15 16), (0, u "nodes"), (0, u "J"), (0, .fieldref 8 18), (0, .nameAndType 19 16), (0, u "relationships"), (0, .fieldref 8 21), (0, .nameAndType 22 16), (0, u "types"), (0, .fieldref 8 24), (0, .nameAndType 25 16), (0, u "groups"), (0, .fieldref 8 27), (0, .nameAndType 28 16), (0, u "keyBytes"), (0, .fieldref 8 30), (0, .nameAndType 31 16), (0, u "typeNameBytes"), (2, .long 64), (1, .methodref 8 37), (0, .nameAndType 38 39), (0, u "keyEnds"), (0, u "()J"), (2, .long 8), (1, .methodref 8 45), (0, .nameAndType 46 39), (0, u "keys"), (0, .methodref 8 48), (0, .nameAndType 49 50), (0, u "padded"), (0, u "(J)J"), (0, .methodref 8 52), (0, .nameAndType 53 39), (0, u "typeNameEnds"), (2, u "typeNames"), (12, .long 7), (1, .methodref 8 72), (0, .nameAndType 73 74), (0, u "padding"), (0, u "(J)I"), (8, u "MAGIC"), (0, u "[B"), (74, u "(IJJJJJJ)V"), (37, u "VERSION"), (2, u "HEADER_BYTES"), (1, u "OUTGOING"), (1, u "INCOMING")] 51

def k3c0 : Code := { maxStack := 3, maxLocals := 14, code := prog_22_method_1_code, exceptionTable := #[], attributes := #[] }
def k3m0 : Method := { name := "<init>", desc := "(IJJJJJJ)V", sig := { parameters := [.int, .long, .long, .long, .long, .long, .long], returnType := none }, accessFlags := 0, code := some k3c0 }
def k3c1 : Code := { maxStack := 2, maxLocals := 1, code := prog_22_method_4_code, exceptionTable := #[], attributes := #[] }
def k3m1 : Method := { name := "keyEnds", desc := "()J", sig := { parameters := [], returnType := some .long }, accessFlags := 0, code := some k3c1 }
def k3c2 : Code := { maxStack := 6, maxLocals := 1, code := prog_22_method_5_code, exceptionTable := #[], attributes := #[] }
def k3m2 : Method := { name := "keys", desc := "()J", sig := { parameters := [], returnType := some .long }, accessFlags := 0, code := some k3c2 }
def k3c3 : Code := { maxStack := 4, maxLocals := 1, code := prog_22_method_6_code, exceptionTable := #[], attributes := #[] }
def k3m3 : Method := { name := "typeNameEnds", desc := "()J", sig := { parameters := [], returnType := some .long }, accessFlags := 0, code := some k3c3 }
def k3c4 : Code := { maxStack := 6, maxLocals := 1, code := prog_22_method_7_code, exceptionTable := #[], attributes := #[] }
def k3m4 : Method := { name := "typeNames", desc := "()J", sig := { parameters := [], returnType := some .long }, accessFlags := 0, code := some k3c4 }
def k3c5 : Code := { maxStack := 4, maxLocals := 2, code := prog_22_method_13_code, exceptionTable := #[], attributes := #[] }
def k3m5 : Method := { name := "padding", desc := "(J)I", sig := { parameters := [.long], returnType := some .int }, accessFlags := 8, code := some k3c5 }
def k3c6 : Code := { maxStack := 4, maxLocals := 2, code := prog_22_method_14_code, exceptionTable := #[], attributes := #[] }
def k3m6 : Method := { name := "padded", desc := "(J)J", sig := { parameters := [.long], returnType := some .long }, accessFlags := 10, code := some k3c6 }
/-- com/example/adjacity/adjacity/Layout -/
def k3 : Class := { plain "com/example/adjacity/adjacity/Layout" (some 2) with
  accessFlags := 48
  interfaces := #[]
  cf := some (fileOf pool3 8 #[] #[{ accessFlags := 0, nameIndex := 5, descriptorIndex := 159, attributes := #[] }, { accessFlags := 0, nameIndex := 38, descriptorIndex := 39, attributes := #[] }, { accessFlags := 0, nameIndex := 46, descriptorIndex := 39, attributes := #[] }, { accessFlags := 0, nameIndex := 53, descriptorIndex := 39, attributes := #[] }, { accessFlags := 0, nameIndex := 56, descriptorIndex := 39, attributes := #[] }, { accessFlags := 8, nameIndex := 73, descriptorIndex := 74, attributes := #[] }, { accessFlags := 10, nameIndex := 49, descriptorIndex := 50, attributes := #[] }] 48 2 #[] #[{ accessFlags := 18, nameIndex := 11, descriptorIndex := 12, attributes := #[] }, { accessFlags := 18, nameIndex := 15, descriptorIndex := 16, attributes := #[] }, { accessFlags := 18, nameIndex := 19, descriptorIndex := 16, attributes := #[] }, { accessFlags := 18, nameIndex := 22, descriptorIndex := 16, attributes := #[] }, { accessFlags := 18, nameIndex := 25, descriptorIndex := 16, attributes := #[] }, { accessFlags := 18, nameIndex := 28, descriptorIndex := 16, attributes := #[] }, { accessFlags := 18, nameIndex := 31, descriptorIndex := 16, attributes := #[] }, { accessFlags := 24, nameIndex := 197, descriptorIndex := 12, attributes := #[] }, { accessFlags := 24, nameIndex := 200, descriptorIndex := 12, attributes := #[] }, { accessFlags := 24, nameIndex := 202, descriptorIndex := 12, attributes := #[] }, { accessFlags := 24, nameIndex := 204, descriptorIndex := 12, attributes := #[] }, { accessFlags := 26, nameIndex := 83, descriptorIndex := 84, attributes := #[] }])
  fields := #[{ name := "generation", type := .int, accessFlags := 18, slot := 0, constantValue := 0 }, { name := "nodes", type := .long, accessFlags := 18, slot := 1, constantValue := 0 }, { name := "relationships", type := .long, accessFlags := 18, slot := 2, constantValue := 0 }, { name := "types", type := .long, accessFlags := 18, slot := 3, constantValue := 0 }, { name := "groups", type := .long, accessFlags := 18, slot := 4, constantValue := 0 }, { name := "keyBytes", type := .long, accessFlags := 18, slot := 5, constantValue := 0 }, { name := "typeNameBytes", type := .long, accessFlags := 18, slot := 6, constantValue := 0 }, { name := "VERSION", type := .int, accessFlags := 24, slot := 0, constantValue := 0 }, { name := "HEADER_BYTES", type := .int, accessFlags := 24, slot := 1, constantValue := 0 }, { name := "OUTGOING", type := .int, accessFlags := 24, slot := 2, constantValue := 0 }, { name := "INCOMING", type := .int, accessFlags := 24, slot := 3, constantValue := 0 }, { name := "MAGIC", type := (.array .byte), accessFlags := 26, slot := 4, constantValue := 0 }]
  methods := #[k3m0, k3m1, k3m2, k3m3, k3m4, k3m5, k3m6]
  instanceTypes := #[.int, .long, .long, .long, .long, .long, .long]
  staticTypes := #[.int, .int, .int, .int, (.array .byte)]
  resolved := Array.replicate 256 none
  statics := none }

def pool4 : Array CpInfo := pool [(1, u "java/lang/Cloneable"), (0, .class_ 1), (0, u "java/lang/Object"), (0, .class_ 3)] 3

/-- java/lang/Cloneable -/
def k4 : Class := { plain "java/lang/Cloneable" (some 0) with
  accessFlags := 1537
  interfaces := #[]
  cf := some (fileOf pool4 2 #[] #[] 1537 4 #[] #[])
  fields := #[]
  methods := #[]
  instanceTypes := #[]
  staticTypes := #[]
  resolved := Array.replicate 8 none
  statics := none }

def pool5 : Array CpInfo := pool [(1, u "java/io/Serializable"), (0, .class_ 1), (0, u "java/lang/Object"), (0, .class_ 3)] 3

/-- java/io/Serializable -/
def k5 : Class := { plain "java/io/Serializable" (some 0) with
  accessFlags := 1537
  interfaces := #[]
  cf := some (fileOf pool5 2 #[] #[] 1537 4 #[] #[])
  fields := #[]
  methods := #[]
  instanceTypes := #[]
  staticTypes := #[]
  resolved := Array.replicate 8 none
  statics := none }

/-- the primitive byte -/
def k6 : Class := { plain "byte" none with kind := .primitive 'B', accessFlags := 0x411 }
/-- [B -/
def k7 : Class := { plain "[B" (some 0) with kind := .array 6 .byte, interfaces := #[4, 5], accessFlags := 1041 }

/-- the primitive int -/
def k8 : Class := { plain "int" none with kind := .primitive 'I', accessFlags := 0x411 }
/-- [I -/
def k9 : Class := { plain "[I" (some 0) with kind := .array 8 .int, interfaces := #[4, 5], accessFlags := 1041 }

def heap : Heap := #[]
def classes : Array Class := #[k0, k1, k2, k3, k4, k5, k6, k7, k8, k9]
def interned : List (Array UInt16 × Addr) := []
def slotsUsed : Nat := 0
def theMethod : MethodId := ⟨1, 1⟩
def args0 : Array Value := #[.int 5, .long 3, .long 4, .long 5, .long 6, .long 7]
def aboutOver (below : List Frame) : State where
  vm := { classes := classes, interned := interned.toArray }
  heap := heap
  slotsUsed := slotsUsed
  threads := #[{ frames := .invoking theMethod args0 :: below }]
def below0 : List Frame := [.native { method := ⟨0, 0⟩, args := #[] }]
def about1 : State := aboutOver below0
def p0 : Program := .bare "" "" ""
def e0 : Env := launch0.env 0 0 0
theorem w_frames : about1.frames = Frame.invoking theMethod args0 :: below0 := rfl
set_option maxRecDepth 65536 in
theorem w_args : argsFit about1.vm theMethod args0 = true := by decide +kernel
set_option maxRecDepth 65536 in
theorem w_heap : heapFits about1 = true := by decide +kernel
set_option maxRecDepth 65536 in
theorem w_runnable : about1.curStatus? = some .runnable := by decide +kernel
set_option maxRecDepth 65536 in
theorem w_alone : about1.alone = true := by decide +kernel
set_option maxRecDepth 65536 in
theorem w_named : about1.methodNamed? x = some theMethod := by decide +kernel
set_option maxRecDepth 65536 in
theorem w_hears : about1.hears theMethod below0 = true := by decide +kernel
set_option maxRecDepth 65536 in
theorem w_ripe : about1.ripe theMethod args0 below0 = true := by decide +kernel
theorem w_running : about1.status = .running := rfl
set_option maxRecDepth 65536 in
theorem w_room : about1.hasRoom e0.platform room_1 = true :=
  launch0.hasRoom_least _ room_1 (by decide +kernel) (by decide +kernel) (by decide +kernel) (by decide +kernel) (by decide +kernel) (by decide +kernel)
theorem allAtoms_all (ts : List Jvm.Cond) (a : Array Jvm.Value) (st : Jvm.State) : (allAtoms ts).before a st = ts.all (fun c => c.before a st) := by
  induction ts with
  | nil => rfl
  | cons c t ih =>
    show (Jvm.Cond.and c (allAtoms t)).before a st = _
    rw [Jvm.Cond.before_and, ih, List.all_cons]
def words1 : List Jvm.Cond := Jvm.Cond.code x code maxLocals ret :: tables_1
/-- a 'code' word, met by the world's own term for the bytes: nothing is compared byte by byte -/
theorem code_word {y : MethodName} {bytes : ByteArray} {mx : Nat} {rt : Option FieldType} {a : Array Value} {s : State} {m : MethodId} {meth : Method} {c : Code} (h1 : s.methodNamed? y = some m) (h2 : s.vm.method? m = some meth) (h3 : meth.code = some c) (h4 : c.code = bytes)
    (h5 : (c.maxLocals == mx && c.exceptionTable.isEmpty && decide (c.maxStack ≤ mostOperands) && decide (meth.sig.returnType = rt) && !meth.locks && decide (parseMethodDescriptor y.desc = some meth.sig)) = true) : (Jvm.Cond.code y bytes mx rt).before a s = true := by
  simp only [Bool.and_eq_true, beq_iff_eq, Bool.not_eq_true', decide_eq_true_eq] at h5
  obtain ⟨⟨⟨⟨⟨g1, g2⟩, g3⟩, g4⟩, g5⟩, g6⟩ := h5
  simp [Cond.before, Cond.holds, Cond.value, h1, h2, h3, h4, g1, g2, g3, g4, g5, g6]
def isCode : Jvm.Cond → Bool
  | .code _ _ _ _ => true
  | _ => false
theorem all_split {L : List Jvm.Cond} {P : Jvm.Cond → Bool} (h1 : L.all (fun c => isCode c || P c) = true) (h2 : ∀ c ∈ L.filter isCode, P c = true) : L.all P = true := by
  refine List.all_eq_true.mpr fun c hc => ?_
  have h := List.all_eq_true.mp h1 c hc
  rcases Bool.eq_false_or_eq_true (isCode c) with hi | hi
  · exact h2 c (List.mem_filter.mpr ⟨hc, hi⟩)
  · simpa [hi] using h
set_option maxRecDepth 65536 in
theorem w_c0 : (Jvm.Cond.code x code maxLocals ret).before args0 about1 = true := code_word (m := ⟨1, 1⟩) (meth := k1m1) (c := k1c1) (by decide +kernel) rfl rfl rfl (by decide +kernel)
set_option maxRecDepth 65536 in
theorem w_c1 : (Jvm.Cond.code ({ cls := "com/example/adjacity/adjacity/Layout", name := "<init>", desc := "(IJJJJJJ)V" } : Jvm.MethodName) prog_22_method_1_code (14 : Nat) (Option.none : Option Jvm.ClassFile.FieldType)).before args0 about1 = true := code_word (m := ⟨3, 0⟩) (meth := k3m0) (c := k3c0) (by decide +kernel) rfl rfl rfl (by decide +kernel)
set_option maxRecDepth 65536 in
theorem w_c2 : (Jvm.Cond.code ({ cls := "java/lang/Record", name := "<init>", desc := "()V" } : Jvm.MethodName) jdk_30_method_1_code (1 : Nat) (Option.none : Option Jvm.ClassFile.FieldType)).before args0 about1 = true := code_word (m := ⟨2, 0⟩) (meth := k2m0) (c := k2c0) (by decide +kernel) rfl rfl rfl (by decide +kernel)
set_option maxRecDepth 65536 in
theorem w_c3 : (Jvm.Cond.code ({ cls := "java/lang/Object", name := "<init>", desc := "()V" } : Jvm.MethodName) object_method_1_code (1 : Nat) (Option.none : Option Jvm.ClassFile.FieldType)).before args0 about1 = true := code_word (m := ⟨0, 0⟩) (meth := k0m0) (c := k0c0) (by decide +kernel) rfl rfl rfl (by decide +kernel)
set_option maxRecDepth 65536 in
theorem w_c4 : (Jvm.Cond.code ({ cls := "com/example/adjacity/adjacity/Layout", name := "typeNames", desc := "()J" } : Jvm.MethodName) prog_22_method_7_code (1 : Nat) (Option.some Jvm.ClassFile.FieldType.long)).before args0 about1 = true := code_word (m := ⟨3, 4⟩) (meth := k3m4) (c := k3c4) (by decide +kernel) rfl rfl rfl (by decide +kernel)
set_option maxRecDepth 65536 in
theorem w_c5 : (Jvm.Cond.code ({ cls := "com/example/adjacity/adjacity/Layout", name := "typeNameEnds", desc := "()J" } : Jvm.MethodName) prog_22_method_6_code (1 : Nat) (Option.some Jvm.ClassFile.FieldType.long)).before args0 about1 = true := code_word (m := ⟨3, 3⟩) (meth := k3m3) (c := k3c3) (by decide +kernel) rfl rfl rfl (by decide +kernel)
set_option maxRecDepth 65536 in
theorem w_c6 : (Jvm.Cond.code ({ cls := "com/example/adjacity/adjacity/Layout", name := "keys", desc := "()J" } : Jvm.MethodName) prog_22_method_5_code (1 : Nat) (Option.some Jvm.ClassFile.FieldType.long)).before args0 about1 = true := code_word (m := ⟨3, 2⟩) (meth := k3m2) (c := k3c2) (by decide +kernel) rfl rfl rfl (by decide +kernel)
set_option maxRecDepth 65536 in
theorem w_c7 : (Jvm.Cond.code ({ cls := "com/example/adjacity/adjacity/Layout", name := "keyEnds", desc := "()J" } : Jvm.MethodName) prog_22_method_4_code (1 : Nat) (Option.some Jvm.ClassFile.FieldType.long)).before args0 about1 = true := code_word (m := ⟨3, 1⟩) (meth := k3m1) (c := k3c1) (by decide +kernel) rfl rfl rfl (by decide +kernel)
set_option maxRecDepth 65536 in
theorem w_c8 : (Jvm.Cond.code ({ cls := "com/example/adjacity/adjacity/Layout", name := "padded", desc := "(J)J" } : Jvm.MethodName) prog_22_method_14_code (2 : Nat) (Option.some Jvm.ClassFile.FieldType.long)).before args0 about1 = true := code_word (m := ⟨3, 6⟩) (meth := k3m6) (c := k3c6) (by decide +kernel) rfl rfl rfl (by decide +kernel)
set_option maxRecDepth 65536 in
theorem w_c9 : (Jvm.Cond.code ({ cls := "com/example/adjacity/adjacity/Layout", name := "padding", desc := "(J)I" } : Jvm.MethodName) prog_22_method_13_code (2 : Nat) (Option.some Jvm.ClassFile.FieldType.int)).before args0 about1 = true := code_word (m := ⟨3, 5⟩) (meth := k3m5) (c := k3c5) (by decide +kernel) rfl rfl rfl (by decide +kernel)
def codes1 : List Jvm.Cond := [Jvm.Cond.code x code maxLocals ret, Jvm.Cond.code ({ cls := "com/example/adjacity/adjacity/Layout", name := "<init>", desc := "(IJJJJJJ)V" } : Jvm.MethodName) prog_22_method_1_code (14 : Nat) (Option.none : Option Jvm.ClassFile.FieldType), Jvm.Cond.code ({ cls := "java/lang/Record", name := "<init>", desc := "()V" } : Jvm.MethodName) jdk_30_method_1_code (1 : Nat) (Option.none : Option Jvm.ClassFile.FieldType), Jvm.Cond.code ({ cls := "java/lang/Object", name := "<init>", desc := "()V" } : Jvm.MethodName) object_method_1_code (1 : Nat) (Option.none : Option Jvm.ClassFile.FieldType), Jvm.Cond.code ({ cls := "com/example/adjacity/adjacity/Layout", name := "typeNames", desc := "()J" } : Jvm.MethodName) prog_22_method_7_code (1 : Nat) (Option.some Jvm.ClassFile.FieldType.long), Jvm.Cond.code ({ cls := "com/example/adjacity/adjacity/Layout", name := "typeNameEnds", desc := "()J" } : Jvm.MethodName) prog_22_method_6_code (1 : Nat) (Option.some Jvm.ClassFile.FieldType.long), Jvm.Cond.code ({ cls := "com/example/adjacity/adjacity/Layout", name := "keys", desc := "()J" } : Jvm.MethodName) prog_22_method_5_code (1 : Nat) (Option.some Jvm.ClassFile.FieldType.long), Jvm.Cond.code ({ cls := "com/example/adjacity/adjacity/Layout", name := "keyEnds", desc := "()J" } : Jvm.MethodName) prog_22_method_4_code (1 : Nat) (Option.some Jvm.ClassFile.FieldType.long), Jvm.Cond.code ({ cls := "com/example/adjacity/adjacity/Layout", name := "padded", desc := "(J)J" } : Jvm.MethodName) prog_22_method_14_code (2 : Nat) (Option.some Jvm.ClassFile.FieldType.long), Jvm.Cond.code ({ cls := "com/example/adjacity/adjacity/Layout", name := "padding", desc := "(J)I" } : Jvm.MethodName) prog_22_method_13_code (2 : Nat) (Option.some Jvm.ClassFile.FieldType.int)]
set_option maxRecDepth 65536 in
theorem codes_eq : words1.filter isCode = codes1 := rfl
theorem w_codes : ∀ c ∈ words1.filter isCode, c.before args0 about1 = true := by
  rw [codes_eq]
  intro c hc
  simp only [codes1, List.mem_cons, List.not_mem_nil, or_false] at hc
  rcases hc with rfl | rfl | rfl | rfl | rfl | rfl | rfl | rfl | rfl | rfl
  · exact w_c0
  · exact w_c1
  · exact w_c2
  · exact w_c3
  · exact w_c4
  · exact w_c5
  · exact w_c6
  · exact w_c7
  · exact w_c8
  · exact w_c9
set_option maxRecDepth 65536 in
theorem w_t1 : (words1.take 24).all (fun c => isCode c || c.before args0 about1) = true := by decide +kernel
set_option maxRecDepth 65536 in
theorem w_t2 : ((words1.drop 24).take 24).all (fun c => isCode c || c.before args0 about1) = true := by decide +kernel
set_option maxRecDepth 65536 in
theorem w_t3 : ((words1.drop 24).drop 24).all (fun c => isCode c || c.before args0 about1) = true := by decide +kernel
theorem w_tables : (allAtoms (Jvm.Cond.code x code maxLocals ret :: tables_1)).before args0 about1 = true := by
  rw [allAtoms_all]
  show words1.all (fun c => c.before args0 about1) = true
  refine all_split ?_ w_codes
  rw [← List.take_append_drop 24 words1, List.all_append, w_t1, ← List.take_append_drop 24 (words1.drop 24), List.all_append, w_t2, w_t3]
  rfl
set_option maxRecDepth 65536 in
theorem w_case : (Jvm.Cond.and given_1 narrow_1).before args0 about1 = true := by decide +kernel
theorem w_applies : (headSpec (Jvm.Cond.code x code maxLocals ret :: tables_1) room_1).applies x e0.platform about1 = true :=
  (Spec.applies_iff w_frames).mpr ⟨w_running, w_runnable, w_alone, w_named, w_hears, w_ripe, w_room, w_tables⟩
theorem atStart : AtStart classFile x code maxLocals ret World_1 tables_1 room_1 Calls_1 rest_1 Pre_1 launch0 p0 e0 about1 theMethod args0 below0 :=
  ⟨lists_1, trivial, launch0.admits_env _ _ _, launch0.least_env, fairChoices_fair.cas, fairChoices_fair.clock, w_frames, w_args, w_heap, w_applies, trivial, trivial, w_case⟩
end start1
theorem witness_1 : WitnessClaimed_1 := ⟨start1.p0, start1.e0, start1.about1, start1.theMethod, start1.args0, start1.below0, start1.atStart⟩
end Jvm.Pilot.@@N@@
