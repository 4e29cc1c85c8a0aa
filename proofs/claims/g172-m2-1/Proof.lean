import JvmDerived
import JvmDerived.Pilot.@@N@@Statement
import JvmDerived.Pilot.@@N@@Code
set_option linter.unusedVariables false
set_option linter.unusedSimpArgs false
namespace Jvm.Pilot.@@N@@
open Jvm Jvm.ClassFile Sem Op Lib Jvm.Free Jvm.Stand Jvm.LawKit Jvm.RoadKit Bundle Jvm.Pilot.@@N@@.Jvm.D
section OwnHead
variable {p : Program} {l : Launch} {e : Env} {R : Room} {s : State} {m : MethodId} {args : Array Value} {below : List Frame} {meth : Method} {c : Code} {T : State} {locs : List Loc} {cells slots : Nat} {Z : State} {a0 : Array Value} {h : Heap} {Q : Option Value → Heap → List Loc → Prop} {P : State → Outcome → Prop} {ce sl : Nat} {pc pc' : Nat} {Ls : Array Slot} {st : List Value}
def own_G (p : Program) (e : Env) (below : List Frame) (P : State → Outcome → Prop) (S : State) : Prop := ∃ s₂ o, Steps p.tables e below S s₂ ∧ s₂.status = .running ∧ Ended s₂ below o ∧ P s₂ o
def own_P (s : State) (Q : Option Value → Heap → List Loc → Prop) (ce sl : Nat) (s₂ : State) (o : Outcome) : Prop := ∃ v L, o = .returned v ∧ Q v s₂.heap L ∧ FrameEnd s o s₂ L ce sl
theorem own_fw {S S' : State} (h : ∀ t, Steps p.tables e below S' t → Steps p.tables e below S t) (g : own_G p e below P S') : own_G p e below P S := by
  obtain ⟨s₂, o, h1, r⟩ := g; exact ⟨s₂, o, h _ h1, r⟩
theorem own_via {S S' : State} (h : own_G p e below P S' → own_G p e below P S) (g : own_G p e below P S') : own_G p e below P S := h g
theorem own_cast {S S' : State} (h : S = S') (g : own_G p e below P S') : own_G p e below P S := h ▸ g
abbrev own_M (l : Launch) (Z : State) (y : MethodName) (bytes : ByteArray) (maxL : Nat) (ret : Option FieldType) (ws : List Jvm.Cond) (rm : Room) (as' : Array Value) (h0 : Heap) (Q : Option Value → Heap → List Loc → Prop) (ce sl : Nat) : Prop := MetFree l y (head1 (Jvm.Cond.code y bytes maxL ret :: ws) rm) (fun a U => a = as' ∧ Z.Warmed39 U.vm ∧ U.heap = h0) (fun _ _ _ _ _ => True) (fun _ U o U' => ∃ v L, o = .returned v ∧ Q v U'.heap L ∧ FrameEnd U o U' L ce sl)
theorem own_body {y : MethodName} {bytes : ByteArray} {maxL : Nat} {ret : Option FieldType} {ws : List Jvm.Cond} {rm : Room} {as' : Array Value} {h0 : Heap} (hp : plainFor y = true)
    (body : ∀ (p : Program) (e : Env) (s : State) (m : MethodId) (below : List Frame) (meth : Method) (c : Code) (s₁ : State), p.tables.exec = Jvm.exec → c.code = bytes → c.maxLocals = maxL → s.vm.findClass y.cls = some m.cls → meth.name = y.name → meth.sig.returnType = ret → meth.locks = false → Z.Warmed39 s.vm → Stand p l e rm s m as' below meth c s₁ [] 0 0 → s₁.heap = h0 → own_G p e below (own_P s Q ce sl) (s₁.setTop (entryFrame m as' maxL))) : own_M l Z y bytes maxL ret ws rm as' h0 Q ce sl := by
  refine MetFree.of_bodySF hp hisR ?_
  intro p e s m args below meth c s₁ Bd hml hP hK
  obtain ⟨rfl, hZ, hh⟩ := hP
  exact body p e s m below meth c s₁ Bd.exec Bd.bytes hml (findClass_of_methodNamed Bd.named) (name_of_methodNamed Bd.named Bd.method).1 Bd.returns Bd.notSynchronized hZ (Stand.of_body Bd) (by rw [← hh, Bd.state]; rfl)
theorem own_ret (X : Stand p l e R s m args below meth c T locs cells slots) (hx : p.tables.exec = Jvm.exec) {w : Value} {t : FieldType} {i : Instr} (hret : meth.sig.returnType = some t) (hlk : meth.locks = false) (hn : narrow t w = w)
    (hi : (i = .ireturn ∧ (t = .int ∨ t = .boolean ∨ t = .byte ∨ t = .char ∨ t = .short) ∧ ∃ z, w = .int z) ∨ (i = .lreturn ∧ t = .long ∧ ∃ z, w = .long z) ∨ (i = .dreturn ∧ t = .double ∧ ∃ z, w = .double z) ∨ (i = .freturn ∧ t = .float ∧ ∃ z, w = .float z) ∨ (i = .areturn ∧ t.isReference = true ∧ w.isRef = true))
    (hd : decode c.code pc = .ok (i, 1)) (hQ : Q (some w) T.heap locs) (hce : cells ≤ ce) (hsl : slots ≤ sl) : own_G p e below (own_P s Q ce sl) (T.setTop (mkF m pc Ls (w :: st))) := by
  obtain ⟨fs, hr, hrun, hended, hW, hsame⟩ := X.leave (v := some w) (fun h => by rw [hret] at h; cases h) hlk
  exact ⟨_, _, retOut X hx hret hn hi hd hr, hrun, hended, _, _, rfl, hQ, ⟨_, rfl⟩, hW, hsame.mono hce hsl⟩
theorem own_retI (X : Stand p l e R s m args below meth c T locs cells slots) (hx : p.tables.exec = Jvm.exec) {z : Int32} (hret : meth.sig.returnType = some .int) (hlk : meth.locks = false) (hd : decode c.code pc = .ok (.ireturn, 1)) (hQ : Q (some (.int z)) T.heap locs) (hce : cells ≤ ce) (hsl : slots ≤ sl) : own_G p e below (own_P s Q ce sl) (T.setTop (mkF m pc Ls (.int z :: st))) := own_ret X hx hret hlk rfl (Or.inl ⟨rfl, Or.inl rfl, z, rfl⟩) hd hQ hce hsl
theorem own_retZ (X : Stand p l e R s m args below meth c T locs cells slots) (hx : p.tables.exec = Jvm.exec) {z : Int32} (hret : meth.sig.returnType = some .boolean) (hlk : meth.locks = false) (hz : z = 0 ∨ z = 1) (hd : decode c.code pc = .ok (.ireturn, 1)) (hQ : Q (some (.int z)) T.heap locs) (hce : cells ≤ ce) (hsl : slots ≤ sl) : own_G p e below (own_P s Q ce sl) (T.setTop (mkF m pc Ls (.int z :: st))) := own_ret X hx hret hlk (by rcases hz with rfl | rfl <;> rfl) (Or.inl ⟨rfl, Or.inr (Or.inl rfl), z, rfl⟩) hd hQ hce hsl
theorem own_retB (X : Stand p l e R s m args below meth c T locs cells slots) (hx : p.tables.exec = Jvm.exec) {z : Int32} (hret : meth.sig.returnType = some .byte) (hlk : meth.locks = false) (hz : narrow .byte (.int z) = .int z) (hd : decode c.code pc = .ok (.ireturn, 1)) (hQ : Q (some (.int z)) T.heap locs) (hce : cells ≤ ce) (hsl : slots ≤ sl) : own_G p e below (own_P s Q ce sl) (T.setTop (mkF m pc Ls (.int z :: st))) := own_ret X hx hret hlk hz (Or.inl ⟨rfl, Or.inr (Or.inr (Or.inl rfl)), z, rfl⟩) hd hQ hce hsl
theorem own_retL (X : Stand p l e R s m args below meth c T locs cells slots) (hx : p.tables.exec = Jvm.exec) {z : Int64} (hret : meth.sig.returnType = some .long) (hlk : meth.locks = false) (hd : decode c.code pc = .ok (.lreturn, 1)) (hQ : Q (some (.long z)) T.heap locs) (hce : cells ≤ ce) (hsl : slots ≤ sl) : own_G p e below (own_P s Q ce sl) (T.setTop (mkF m pc Ls (.long z :: st))) := own_ret X hx hret hlk rfl (Or.inr (Or.inl ⟨rfl, rfl, z, rfl⟩)) hd hQ hce hsl
theorem own_retA (X : Stand p l e R s m args below meth c T locs cells slots) (hx : p.tables.exec = Jvm.exec) {v : Value} {t : FieldType} (hret : meth.sig.returnType = some t) (hlk : meth.locks = false) (ht : t.isReference = true) (hn : narrow t v = v) (hv : v.isRef = true) (hd : decode c.code pc = .ok (.areturn, 1)) (hQ : Q (some v) T.heap locs) (hce : cells ≤ ce) (hsl : slots ≤ sl) : own_G p e below (own_P s Q ce sl) (T.setTop (mkF m pc Ls (v :: st))) := own_ret X hx hret hlk hn (Or.inr (Or.inr (Or.inr (Or.inr ⟨rfl, ht, hv⟩)))) hd hQ hce hsl
theorem own_retV (X : Stand p l e R s m args below meth c T locs cells slots) (hx : p.tables.exec = Jvm.exec) (hret : meth.sig.returnType = none) (hlk : meth.locks = false) (hd : decode c.code pc = .ok (.return_, 1)) (hQ : Q none T.heap locs) (hce : cells ≤ ce) (hsl : slots ≤ sl) : own_G p e below (own_P s Q ce sl) (T.setTop (mkF m pc Ls [])) := by
  obtain ⟨fs, hr, hrun, hended, hW, hsame⟩ := X.leave (v := none) (fun _ => rfl) hlk
  exact ⟨_, _, X.returnOut hx hret hd hr, hrun, hended, _, _, rfl, hQ, ⟨_, rfl⟩, hW, hsame.mono hce hsl⟩
theorem own_iloadN {i : Fin 4} {v : Int32} (X : Stand p l e R s m args below meth c T locs cells slots) (hx : p.tables.exec = Jvm.exec) (hd : decode c.code pc = .ok (.iload_n i, 1)) (hl : Ls[i.val]? = some (.val (.int v))) (hp : pc + 1 = pc') (k : own_G p e below P (T.setTop (mkF m pc' Ls (.int v :: st)))) : own_G p e below P (T.setTop (mkF m pc Ls st)) := by
  subst hp; exact own_fw (fun t q => XS.iloadN X.here hx rfl hd hl q) k
theorem own_iload {i : Nat} {v : Int32} (X : Stand p l e R s m args below meth c T locs cells slots) (hx : p.tables.exec = Jvm.exec) (hd : decode c.code pc = .ok (.iload i, 2)) (hl : Ls[i]? = some (.val (.int v))) (hp : pc + 2 = pc') (k : own_G p e below P (T.setTop (mkF m pc' Ls (.int v :: st)))) : own_G p e below P (T.setTop (mkF m pc Ls st)) := by
  subst hp; exact own_fw (fun t q => XS.iload X.here hx rfl hd hl q) k
theorem own_lloadN {i : Fin 4} {v : Int64} (X : Stand p l e R s m args below meth c T locs cells slots) (hx : p.tables.exec = Jvm.exec) (hd : decode c.code pc = .ok (.lload_n i, 1)) (hl : Ls[i.val]? = some (.val (.long v))) (hp : pc + 1 = pc') (k : own_G p e below P (T.setTop (mkF m pc' Ls (.long v :: st)))) : own_G p e below P (T.setTop (mkF m pc Ls st)) := by
  subst hp; exact own_fw (fun t q => XS.lloadN X.here hx rfl hd hl q) k
theorem own_lload {i : Nat} {v : Int64} (X : Stand p l e R s m args below meth c T locs cells slots) (hx : p.tables.exec = Jvm.exec) (hd : decode c.code pc = .ok (.lload i, 2)) (hl : Ls[i]? = some (.val (.long v))) (hp : pc + 2 = pc') (k : own_G p e below P (T.setTop (mkF m pc' Ls (.long v :: st)))) : own_G p e below P (T.setTop (mkF m pc Ls st)) := by
  subst hp; exact own_fw (fun t q => XS.lload X.here hx rfl hd hl q) k
theorem own_aloadN {i : Fin 4} {v : Value} (X : Stand p l e R s m args below meth c T locs cells slots) (hx : p.tables.exec = Jvm.exec) (hd : decode c.code pc = .ok (.aload_n i, 1)) (hl : Ls[i.val]? = some (.val v)) (hv : v.isRef = true) (hp : pc + 1 = pc') (k : own_G p e below P (T.setTop (mkF m pc' Ls (v :: st)))) : own_G p e below P (T.setTop (mkF m pc Ls st)) := by
  subst hp; exact own_fw (fun t q => XS.aloadN X.here hx rfl hd hl hv q) k
theorem own_aload {i : Nat} {v : Value} (X : Stand p l e R s m args below meth c T locs cells slots) (hx : p.tables.exec = Jvm.exec) (hd : decode c.code pc = .ok (.aload i, 2)) (hl : Ls[i]? = some (.val v)) (hv : v.isRef = true) (hp : pc + 2 = pc') (k : own_G p e below P (T.setTop (mkF m pc' Ls (v :: st)))) : own_G p e below P (T.setTop (mkF m pc Ls st)) := by
  subst hp; exact own_fw (fun t q => XS.aload X.here hx rfl hd hl hv q) k
theorem own_istoreN {i : Fin 4} {v : Int32} (X : Stand p l e R s m args below meth c T locs cells slots) (hx : p.tables.exec = Jvm.exec) (hd : decode c.code pc = .ok (.istore_n i, 1)) {l' : Array Slot} (hl : storeLocals Ls i.val (.int v) = some l') (hp : pc + 1 = pc') (k : own_G p e below P (T.setTop (mkF m pc' l' st))) : own_G p e below P (T.setTop (mkF m pc Ls (.int v :: st))) := by
  subst hp; exact own_fw (fun t q => XS.istoreN X.here hx rfl hd rfl hl q) k
theorem own_istore {i : Nat} {v : Int32} (X : Stand p l e R s m args below meth c T locs cells slots) (hx : p.tables.exec = Jvm.exec) (hd : decode c.code pc = .ok (.istore i, 2)) {l' : Array Slot} (hl : storeLocals Ls i (.int v) = some l') (hp : pc + 2 = pc') (k : own_G p e below P (T.setTop (mkF m pc' l' st))) : own_G p e below P (T.setTop (mkF m pc Ls (.int v :: st))) := by
  subst hp; exact own_fw (fun t q => XS.istore X.here hx rfl hd rfl hl q) k
theorem own_lstoreN {i : Fin 4} {v : Int64} (X : Stand p l e R s m args below meth c T locs cells slots) (hx : p.tables.exec = Jvm.exec) (hd : decode c.code pc = .ok (.lstore_n i, 1)) {l' : Array Slot} (hl : storeLocals Ls i.val (.long v) = some l') (hp : pc + 1 = pc') (k : own_G p e below P (T.setTop (mkF m pc' l' st))) : own_G p e below P (T.setTop (mkF m pc Ls (.long v :: st))) := by
  subst hp; exact own_fw (fun t q => XS.lstoreN X.here hx rfl hd rfl hl q) k
theorem own_lstore {i : Nat} {v : Int64} (X : Stand p l e R s m args below meth c T locs cells slots) (hx : p.tables.exec = Jvm.exec) (hd : decode c.code pc = .ok (.lstore i, 2)) {l' : Array Slot} (hl : storeLocals Ls i (.long v) = some l') (hp : pc + 2 = pc') (k : own_G p e below P (T.setTop (mkF m pc' l' st))) : own_G p e below P (T.setTop (mkF m pc Ls (.long v :: st))) := by
  subst hp; exact own_fw (fun t q => XS.lstore X.here hx rfl hd rfl hl q) k
theorem own_astoreN {i : Fin 4} {v : Value} (X : Stand p l e R s m args below meth c T locs cells slots) (hx : p.tables.exec = Jvm.exec) (hd : decode c.code pc = .ok (.astore_n i, 1)) (hv : v.isRef = true) {l' : Array Slot} (hl : storeLocals Ls i.val v = some l') (hp : pc + 1 = pc') (k : own_G p e below P (T.setTop (mkF m pc' l' st))) : own_G p e below P (T.setTop (mkF m pc Ls (v :: st))) := by
  subst hp; exact own_fw (fun t q => XS.astoreN X.here hx rfl hd rfl hv hl q) k
theorem own_astore {i : Nat} {v : Value} (X : Stand p l e R s m args below meth c T locs cells slots) (hx : p.tables.exec = Jvm.exec) (hd : decode c.code pc = .ok (.astore i, 2)) (hv : v.isRef = true) {l' : Array Slot} (hl : storeLocals Ls i v = some l') (hp : pc + 2 = pc') (k : own_G p e below P (T.setTop (mkF m pc' l' st))) : own_G p e below P (T.setTop (mkF m pc Ls (v :: st))) := by
  subst hp; exact own_fw (fun t q => XS.astore X.here hx rfl hd rfl hv hl q) k
theorem own_iconst {i : Int} {z : Int32} (X : Stand p l e R s m args below meth c T locs cells slots) (hx : p.tables.exec = Jvm.exec) (hd : decode c.code pc = .ok (.iconst i, 1)) (hz : Int32.ofInt i = z) (hp : pc + 1 = pc') (k : own_G p e below P (T.setTop (mkF m pc' Ls (.int z :: st)))) : own_G p e below P (T.setTop (mkF m pc Ls st)) := by
  subst hp hz; exact own_fw (fun t q => XS.iconst X.here hx rfl hd q) k
theorem own_bipush {i : Int} {z : Int32} (X : Stand p l e R s m args below meth c T locs cells slots) (hx : p.tables.exec = Jvm.exec) (hd : decode c.code pc = .ok (.bipush i, 2)) (hz : (Int8.ofInt i).toInt32 = z) (hp : pc + 2 = pc') (k : own_G p e below P (T.setTop (mkF m pc' Ls (.int z :: st)))) : own_G p e below P (T.setTop (mkF m pc Ls st)) := by
  subst hp hz; exact own_fw (fun t q => XS.bipush X.here hx rfl hd q) k
theorem own_sipush {i : Int} {z : Int32} (X : Stand p l e R s m args below meth c T locs cells slots) (hx : p.tables.exec = Jvm.exec) (hd : decode c.code pc = .ok (.sipush i, 3)) (hz : (Int16.ofInt i).toInt32 = z) (hp : pc + 3 = pc') (k : own_G p e below P (T.setTop (mkF m pc' Ls (.int z :: st)))) : own_G p e below P (T.setTop (mkF m pc Ls st)) := by
  subst hp hz; exact own_fw (fun t q => XS.sipush X.here hx rfl hd q) k
theorem own_lconst {i : Fin 2} {z : Int64} (X : Stand p l e R s m args below meth c T locs cells slots) (hx : p.tables.exec = Jvm.exec) (hd : decode c.code pc = .ok (.lconst i, 1)) (hz : Int64.ofNat i = z) (hp : pc + 1 = pc') (k : own_G p e below P (T.setTop (mkF m pc' Ls (.long z :: st)))) : own_G p e below P (T.setTop (mkF m pc Ls st)) := by
  subst hp hz; exact own_fw (fun t q => XS.lconst X.here hx rfl hd q) k
theorem own_aconstNull (X : Stand p l e R s m args below meth c T locs cells slots) (hx : p.tables.exec = Jvm.exec) (hd : decode c.code pc = .ok (.aconst_null, 1)) (hp : pc + 1 = pc') (k : own_G p e below P (T.setTop (mkF m pc' Ls (.null :: st)))) : own_G p e below P (T.setTop (mkF m pc Ls st)) := by
  subst hp; exact own_fw (fun t q => XS.aconstNull X.here hx rfl hd q) k
theorem own_ldc (X : Stand p l e R s m args below meth c T locs cells slots) (hx : p.tables.exec = Jvm.exec) (hZ : Z.Warmed39 s.vm) {own : String} {index : Nat} {v : Int32} (hown : s.vm.findClass own = some m.cls) (w1 : (Jvm.Cond.constant own index v).before a0 Z = true) (hd : decode c.code pc = .ok (.ldc index, 2)) (hp : pc + 2 = pc') (k : own_G p e below P (T.setTop (mkF m pc' Ls (.int v :: st)))) : own_G p e below P (T.setTop (mkF m pc Ls st)) := by
  subst hp; exact own_fw (X.ldcInt hx hown (mvT hZ w1) (g := mkF m pc Ls st) rfl hd) k
theorem own_ldc2 (X : Stand p l e R s m args below meth c T locs cells slots) (hx : p.tables.exec = Jvm.exec) (hZ : Z.Warmed39 s.vm) {own : String} {index : Nat} {v : Int64} (hown : s.vm.findClass own = some m.cls) (w1 : (Jvm.Cond.constantLong own index v).before a0 Z = true) (hd : decode c.code pc = .ok (.ldc2_w index, 3)) (hp : pc + 3 = pc') (k : own_G p e below P (T.setTop (mkF m pc' Ls (.long v :: st)))) : own_G p e below P (T.setTop (mkF m pc Ls st)) := by
  subst hp; exact own_fw (X.ldc2Long hx hown (mvT hZ w1) (g := mkF m pc Ls st) rfl hd) k
theorem own_iadd {x y : Int32} (X : Stand p l e R s m args below meth c T locs cells slots) (hx : p.tables.exec = Jvm.exec) (hd : decode c.code pc = .ok (.iadd, 1)) (hp : pc + 1 = pc') (k : own_G p e below P (T.setTop (mkF m pc' Ls (.int (x + y) :: st)))) : own_G p e below P (T.setTop (mkF m pc Ls (.int y :: .int x :: st))) := by
  subst hp; exact own_fw (fun t q => XS.iadd X.here hx rfl hd rfl q) k
theorem own_isub {x y : Int32} (X : Stand p l e R s m args below meth c T locs cells slots) (hx : p.tables.exec = Jvm.exec) (hd : decode c.code pc = .ok (.isub, 1)) (hp : pc + 1 = pc') (k : own_G p e below P (T.setTop (mkF m pc' Ls (.int (x - y) :: st)))) : own_G p e below P (T.setTop (mkF m pc Ls (.int y :: .int x :: st))) := by
  subst hp; exact own_fw (fun t q => XS.isub X.here hx rfl hd rfl q) k
theorem own_imul {x y : Int32} (X : Stand p l e R s m args below meth c T locs cells slots) (hx : p.tables.exec = Jvm.exec) (hd : decode c.code pc = .ok (.imul, 1)) (hp : pc + 1 = pc') (k : own_G p e below P (T.setTop (mkF m pc' Ls (.int (x * y) :: st)))) : own_G p e below P (T.setTop (mkF m pc Ls (.int y :: .int x :: st))) := by
  subst hp; exact own_fw (fun t q => XS.imul X.here hx rfl hd rfl q) k
theorem own_iand {x y : Int32} (X : Stand p l e R s m args below meth c T locs cells slots) (hx : p.tables.exec = Jvm.exec) (hd : decode c.code pc = .ok (.iand, 1)) (hp : pc + 1 = pc') (k : own_G p e below P (T.setTop (mkF m pc' Ls (.int (x &&& y) :: st)))) : own_G p e below P (T.setTop (mkF m pc Ls (.int y :: .int x :: st))) := by
  subst hp; exact own_fw (fun t q => XS.iand X.here hx rfl hd rfl q) k
theorem own_ior {x y : Int32} (X : Stand p l e R s m args below meth c T locs cells slots) (hx : p.tables.exec = Jvm.exec) (hd : decode c.code pc = .ok (.ior, 1)) (hp : pc + 1 = pc') (k : own_G p e below P (T.setTop (mkF m pc' Ls (.int (x ||| y) :: st)))) : own_G p e below P (T.setTop (mkF m pc Ls (.int y :: .int x :: st))) := by
  subst hp; exact own_fw (fun t q => XS.ior X.here hx rfl hd rfl q) k
theorem own_ixor {x y : Int32} (X : Stand p l e R s m args below meth c T locs cells slots) (hx : p.tables.exec = Jvm.exec) (hd : decode c.code pc = .ok (.ixor, 1)) (hp : pc + 1 = pc') (k : own_G p e below P (T.setTop (mkF m pc' Ls (.int (x ^^^ y) :: st)))) : own_G p e below P (T.setTop (mkF m pc Ls (.int y :: .int x :: st))) := by
  subst hp; exact own_fw (fun t q => XS.ixor X.here hx rfl hd rfl q) k
theorem own_ishl {x y : Int32} (X : Stand p l e R s m args below meth c T locs cells slots) (hx : p.tables.exec = Jvm.exec) (hd : decode c.code pc = .ok (.ishl, 1)) (hp : pc + 1 = pc') (k : own_G p e below P (T.setTop (mkF m pc' Ls (.int (x <<< (y &&& 31)) :: st)))) : own_G p e below P (T.setTop (mkF m pc Ls (.int y :: .int x :: st))) := by
  subst hp; exact own_fw (fun t q => XS.ishl X.here hx rfl hd rfl q) k
theorem own_ishr {x y : Int32} (X : Stand p l e R s m args below meth c T locs cells slots) (hx : p.tables.exec = Jvm.exec) (hd : decode c.code pc = .ok (.ishr, 1)) (hp : pc + 1 = pc') (k : own_G p e below P (T.setTop (mkF m pc' Ls (.int (x >>> (y &&& 31)) :: st)))) : own_G p e below P (T.setTop (mkF m pc Ls (.int y :: .int x :: st))) := by
  subst hp; exact own_fw (fun t q => XS.ishr X.here hx rfl hd rfl q) k
theorem own_iushr {x y : Int32} (X : Stand p l e R s m args below meth c T locs cells slots) (hx : p.tables.exec = Jvm.exec) (hd : decode c.code pc = .ok (.iushr, 1)) (hp : pc + 1 = pc') (k : own_G p e below P (T.setTop (mkF m pc' Ls (.int ((x.toUInt32 >>> (y &&& 31).toUInt32).toInt32) :: st)))) : own_G p e below P (T.setTop (mkF m pc Ls (.int y :: .int x :: st))) := by
  subst hp; exact own_fw (fun t q => XS.iushr X.here hx rfl hd rfl q) k
theorem own_ladd {x y : Int64} (X : Stand p l e R s m args below meth c T locs cells slots) (hx : p.tables.exec = Jvm.exec) (hd : decode c.code pc = .ok (.ladd, 1)) (hp : pc + 1 = pc') (k : own_G p e below P (T.setTop (mkF m pc' Ls (.long (x + y) :: st)))) : own_G p e below P (T.setTop (mkF m pc Ls (.long y :: .long x :: st))) := by
  subst hp; exact own_fw (fun t q => XS.ladd X.here hx rfl hd rfl q) k
theorem own_lsub {x y : Int64} (X : Stand p l e R s m args below meth c T locs cells slots) (hx : p.tables.exec = Jvm.exec) (hd : decode c.code pc = .ok (.lsub, 1)) (hp : pc + 1 = pc') (k : own_G p e below P (T.setTop (mkF m pc' Ls (.long (x - y) :: st)))) : own_G p e below P (T.setTop (mkF m pc Ls (.long y :: .long x :: st))) := by
  subst hp; exact own_fw (fun t q => XS.lsub X.here hx rfl hd rfl q) k
theorem own_lmul {x y : Int64} (X : Stand p l e R s m args below meth c T locs cells slots) (hx : p.tables.exec = Jvm.exec) (hd : decode c.code pc = .ok (.lmul, 1)) (hp : pc + 1 = pc') (k : own_G p e below P (T.setTop (mkF m pc' Ls (.long (x * y) :: st)))) : own_G p e below P (T.setTop (mkF m pc Ls (.long y :: .long x :: st))) := by
  subst hp; exact own_fw (fun t q => XS.lmul X.here hx rfl hd rfl q) k
theorem own_land {x y : Int64} (X : Stand p l e R s m args below meth c T locs cells slots) (hx : p.tables.exec = Jvm.exec) (hd : decode c.code pc = .ok (.land, 1)) (hp : pc + 1 = pc') (k : own_G p e below P (T.setTop (mkF m pc' Ls (.long (x &&& y) :: st)))) : own_G p e below P (T.setTop (mkF m pc Ls (.long y :: .long x :: st))) := by
  subst hp; exact own_fw (fun t q => XS.land X.here hx rfl hd rfl q) k
theorem own_lor {x y : Int64} (X : Stand p l e R s m args below meth c T locs cells slots) (hx : p.tables.exec = Jvm.exec) (hd : decode c.code pc = .ok (.lor, 1)) (hp : pc + 1 = pc') (k : own_G p e below P (T.setTop (mkF m pc' Ls (.long (x ||| y) :: st)))) : own_G p e below P (T.setTop (mkF m pc Ls (.long y :: .long x :: st))) := by
  subst hp; exact own_fw (fun t q => XS.lor X.here hx rfl hd rfl q) k
theorem own_lxor {x y : Int64} (X : Stand p l e R s m args below meth c T locs cells slots) (hx : p.tables.exec = Jvm.exec) (hd : decode c.code pc = .ok (.lxor, 1)) (hp : pc + 1 = pc') (k : own_G p e below P (T.setTop (mkF m pc' Ls (.long (x ^^^ y) :: st)))) : own_G p e below P (T.setTop (mkF m pc Ls (.long y :: .long x :: st))) := by
  subst hp; exact own_fw (fun t q => XS.lxor X.here hx rfl hd rfl q) k
theorem own_lshl {x : Int64} {y : Int32} (X : Stand p l e R s m args below meth c T locs cells slots) (hx : p.tables.exec = Jvm.exec) (hd : decode c.code pc = .ok (.lshl, 1)) (hp : pc + 1 = pc') (k : own_G p e below P (T.setTop (mkF m pc' Ls (.long (x <<< (y &&& 0x3f).toInt64) :: st)))) : own_G p e below P (T.setTop (mkF m pc Ls (.int y :: .long x :: st))) := by
  subst hp; exact own_fw (fun t q => XS.lshl X.here hx rfl hd rfl q) k
theorem own_lshr {x : Int64} {y : Int32} (X : Stand p l e R s m args below meth c T locs cells slots) (hx : p.tables.exec = Jvm.exec) (hd : decode c.code pc = .ok (.lshr, 1)) (hp : pc + 1 = pc') (k : own_G p e below P (T.setTop (mkF m pc' Ls (.long (x >>> (y &&& 0x3f).toInt64) :: st)))) : own_G p e below P (T.setTop (mkF m pc Ls (.int y :: .long x :: st))) := by
  subst hp; exact own_fw (fun t q => XS.lshr X.here hx rfl hd rfl q) k
theorem own_lushr {x : Int64} {y : Int32} (X : Stand p l e R s m args below meth c T locs cells slots) (hx : p.tables.exec = Jvm.exec) (hd : decode c.code pc = .ok (.lushr, 1)) (hp : pc + 1 = pc') (k : own_G p e below P (T.setTop (mkF m pc' Ls (.long ((x.toUInt64 >>> (y &&& 0x3f).toInt64.toUInt64).toInt64) :: st)))) : own_G p e below P (T.setTop (mkF m pc Ls (.int y :: .long x :: st))) := by
  subst hp; exact own_fw (fun t q => XS.lushr X.here hx rfl hd rfl q) k
theorem own_idiv {x y : Int32} (X : Stand p l e R s m args below meth c T locs cells slots) (hx : p.tables.exec = Jvm.exec) (hd : decode c.code pc = .ok (.idiv, 1)) (hy : y ≠ 0) (hp : pc + 1 = pc') (k : own_G p e below P (T.setTop (mkF m pc' Ls (.int (x / y) :: st)))) : own_G p e below P (T.setTop (mkF m pc Ls (.int y :: .int x :: st))) := by
  subst hp; exact own_fw (fun t q => XS.idiv X.here hx rfl hd rfl hy q) k
theorem own_ldiv {x y : Int64} (X : Stand p l e R s m args below meth c T locs cells slots) (hx : p.tables.exec = Jvm.exec) (hd : decode c.code pc = .ok (.ldiv, 1)) (hy : y ≠ 0) (hp : pc + 1 = pc') (k : own_G p e below P (T.setTop (mkF m pc' Ls (.long (x / y) :: st)))) : own_G p e below P (T.setTop (mkF m pc Ls (.long y :: .long x :: st))) := by
  subst hp; exact own_fw (fun t q => XS.ldiv X.here hx rfl hd rfl hy q) k
theorem own_irem {x y : Int32} (X : Stand p l e R s m args below meth c T locs cells slots) (hx : p.tables.exec = Jvm.exec) (hd : decode c.code pc = .ok (.irem, 1)) (hy : y ≠ 0) (hp : pc + 1 = pc') (k : own_G p e below P (T.setTop (mkF m pc' Ls (.int (x % y) :: st)))) : own_G p e below P (T.setTop (mkF m pc Ls (.int y :: .int x :: st))) := by
  subst hp; exact own_fw (fun t q => iremM X hx rfl hd rfl hy q) k
theorem own_lrem {x y : Int64} (X : Stand p l e R s m args below meth c T locs cells slots) (hx : p.tables.exec = Jvm.exec) (hd : decode c.code pc = .ok (.lrem, 1)) (hy : y ≠ 0) (hp : pc + 1 = pc') (k : own_G p e below P (T.setTop (mkF m pc' Ls (.long (x % y) :: st)))) : own_G p e below P (T.setTop (mkF m pc Ls (.long y :: .long x :: st))) := by
  subst hp; rw [← lrem_mod] at k; exact own_fw (fun t q => XS.lrem X.here hx rfl hd rfl hy q) k
theorem own_ineg {x : Int32} (X : Stand p l e R s m args below meth c T locs cells slots) (hx : p.tables.exec = Jvm.exec) (hd : decode c.code pc = .ok (.ineg, 1)) (hp : pc + 1 = pc') (k : own_G p e below P (T.setTop (mkF m pc' Ls (.int (-x) :: st)))) : own_G p e below P (T.setTop (mkF m pc Ls (.int x :: st))) := by
  subst hp; exact own_fw (fun t q => XS.ineg X.here hx rfl hd rfl q) k
theorem own_lneg {x : Int64} (X : Stand p l e R s m args below meth c T locs cells slots) (hx : p.tables.exec = Jvm.exec) (hd : decode c.code pc = .ok (.lneg, 1)) (hp : pc + 1 = pc') (k : own_G p e below P (T.setTop (mkF m pc' Ls (.long (-x) :: st)))) : own_G p e below P (T.setTop (mkF m pc Ls (.long x :: st))) := by
  subst hp; exact own_fw (fun t q => XS.lneg X.here hx rfl hd rfl q) k
theorem own_i2l {x : Int32} (X : Stand p l e R s m args below meth c T locs cells slots) (hx : p.tables.exec = Jvm.exec) (hd : decode c.code pc = .ok (.i2l, 1)) (hp : pc + 1 = pc') (k : own_G p e below P (T.setTop (mkF m pc' Ls (.long x.toInt64 :: st)))) : own_G p e below P (T.setTop (mkF m pc Ls (.int x :: st))) := by
  subst hp; exact own_fw (fun t q => XS.i2l X.here hx rfl hd rfl q) k
theorem own_l2i {x : Int64} (X : Stand p l e R s m args below meth c T locs cells slots) (hx : p.tables.exec = Jvm.exec) (hd : decode c.code pc = .ok (.l2i, 1)) (hp : pc + 1 = pc') (k : own_G p e below P (T.setTop (mkF m pc' Ls (.int x.toInt32 :: st)))) : own_G p e below P (T.setTop (mkF m pc Ls (.long x :: st))) := by
  subst hp; exact own_fw (fun t q => XS.l2i X.here hx rfl hd rfl q) k
theorem own_i2b {x : Int32} (X : Stand p l e R s m args below meth c T locs cells slots) (hx : p.tables.exec = Jvm.exec) (hd : decode c.code pc = .ok (.i2b, 1)) (hp : pc + 1 = pc') (k : own_G p e below P (T.setTop (mkF m pc' Ls (.int x.toInt8.toInt32 :: st)))) : own_G p e below P (T.setTop (mkF m pc Ls (.int x :: st))) := by
  subst hp; exact own_fw (fun t q => XS.i2b X.here hx rfl hd rfl q) k
theorem own_lcmp {x y : Int64} (X : Stand p l e R s m args below meth c T locs cells slots) (hx : p.tables.exec = Jvm.exec) (hd : decode c.code pc = .ok (.lcmp, 1)) (hp : pc + 1 = pc') (k : own_G p e below P (T.setTop (mkF m pc' Ls (.int (lcmpW x y) :: st)))) : own_G p e below P (T.setTop (mkF m pc Ls (.long y :: .long x :: st))) := by
  subst hp; exact own_fw (fun t q => XS.lcmp X.here hx rfl hd rfl q) k
theorem own_dup {x : Value} (X : Stand p l e R s m args below meth c T locs cells slots) (hx : p.tables.exec = Jvm.exec) (hd : decode c.code pc = .ok (.dup, 1)) (hc : x.category = 1) (hp : pc + 1 = pc') (k : own_G p e below P (T.setTop (mkF m pc' Ls (x :: x :: st)))) : own_G p e below P (T.setTop (mkF m pc Ls (x :: st))) := by
  subst hp; exact own_fw (fun t q => XS.dup X.here hx rfl hd rfl hc q) k
theorem own_pop {x : Value} (X : Stand p l e R s m args below meth c T locs cells slots) (hx : p.tables.exec = Jvm.exec) (hd : decode c.code pc = .ok (.pop, 1)) (hc : x.category = 1) (hp : pc + 1 = pc') (k : own_G p e below P (T.setTop (mkF m pc' Ls st))) : own_G p e below P (T.setTop (mkF m pc Ls (x :: st))) := by
  subst hp; exact own_fw (fun t q => XS.pop X.here hx rfl hd rfl hc q) k
theorem own_dupX1 {x y : Value} (X : Stand p l e R s m args below meth c T locs cells slots) (hx : p.tables.exec = Jvm.exec) (hd : decode c.code pc = .ok (.dup_x1, 1)) (hc : x.category = 1) (hc' : y.category = 1) (hp : pc + 1 = pc') (k : own_G p e below P (T.setTop (mkF m pc' Ls (x :: y :: x :: st)))) : own_G p e below P (T.setTop (mkF m pc Ls (x :: y :: st))) := by
  subst hp; exact own_fw (fun t q => XS.dupX1 X.here hx rfl hd rfl hc hc' q) k
theorem own_dup2 {x y : Value} (X : Stand p l e R s m args below meth c T locs cells slots) (hx : p.tables.exec = Jvm.exec) (hd : decode c.code pc = .ok (.dup2, 1)) (hc : x.category = 1) (hc' : y.category = 1) (hp : pc + 1 = pc') (k : own_G p e below P (T.setTop (mkF m pc' Ls (x :: y :: x :: y :: st)))) : own_G p e below P (T.setTop (mkF m pc Ls (x :: y :: st))) := by
  subst hp; exact own_fw (fun t q => XT.dup2 X.here hx rfl hd rfl hc hc' q) k
theorem own_iinc {i : Nat} {cst : Int} {x z : Int32} (X : Stand p l e R s m args below meth c T locs cells slots) (hx : p.tables.exec = Jvm.exec) (hd : decode c.code pc = .ok (.iinc i cst, 3)) (hl : Ls[i]? = some (.val (.int x))) (hz : Int32.ofInt cst = z) {l' : Array Slot} (hl' : storeLocals Ls i (.int (x + z)) = some l') (hp : pc + 3 = pc') (k : own_G p e below P (T.setTop (mkF m pc' l' st))) : own_G p e below P (T.setTop (mkF m pc Ls st)) := by
  subst hp hz; exact own_fw (fun t q => XS.iinc X.here hx rfl hd hl hl' q) k
theorem own_goto {o : Int} (X : Stand p l e R s m args below meth c T locs cells slots) (hx : p.tables.exec = Jvm.exec) (hd : decode c.code pc = .ok (.goto o, 3)) (ho : 0 ≤ (pc : Int) + o) (hp : ((pc : Int) + o).toNat = pc') (k : own_G p e below P (T.setTop (mkF m pc' Ls st))) : own_G p e below P (T.setTop (mkF m pc Ls st)) := own_fw (fun t q => XS.goto X.here hx rfl (pc0 := pc) rfl hd ho hp q) k
theorem own_icmpT {o : Int} {cd : ClassFile.Cond} {x y : Int32} (X : Stand p l e R s m args below meth c T locs cells slots) (hx : p.tables.exec = Jvm.exec) (hd : decode c.code pc = .ok (.if_icmp cd o, 3)) (hc : if_icmp.holds cd x y = true) (ho : 0 ≤ (pc : Int) + o) (hp : ((pc : Int) + o).toNat = pc') (k : own_G p e below P (T.setTop (mkF m pc' Ls st))) : own_G p e below P (T.setTop (mkF m pc Ls (.int y :: .int x :: st))) := own_fw (fun t q => XS.icmpYes X.here hx rfl (pc0 := pc) rfl hd rfl hc ho hp q) k
theorem own_icmpF {o : Int} {cd : ClassFile.Cond} {x y : Int32} (X : Stand p l e R s m args below meth c T locs cells slots) (hx : p.tables.exec = Jvm.exec) (hd : decode c.code pc = .ok (.if_icmp cd o, 3)) (hc : if_icmp.holds cd x y = false) (hp : pc + 3 = pc') (k : own_G p e below P (T.setTop (mkF m pc' Ls st))) : own_G p e below P (T.setTop (mkF m pc Ls (.int y :: .int x :: st))) := by
  subst hp; exact own_fw (fun t q => XS.icmpNo X.here hx rfl hd rfl hc q) k
theorem own_ifT {o : Int} {cd : ClassFile.Cond} {x : Int32} (X : Stand p l e R s m args below meth c T locs cells slots) (hx : p.tables.exec = Jvm.exec) (hd : decode c.code pc = .ok (.ifCond cd o, 3)) (hc : if_icmp.holds cd x 0 = true) (ho : 0 ≤ (pc : Int) + o) (hp : ((pc : Int) + o).toNat = pc') (k : own_G p e below P (T.setTop (mkF m pc' Ls st))) : own_G p e below P (T.setTop (mkF m pc Ls (.int x :: st))) := own_fw (fun t q => XS.ifYes X.here hx rfl (pc0 := pc) rfl hd rfl ((if0 cd x).trans hc) ho hp q) k
theorem own_ifF {o : Int} {cd : ClassFile.Cond} {x : Int32} (X : Stand p l e R s m args below meth c T locs cells slots) (hx : p.tables.exec = Jvm.exec) (hd : decode c.code pc = .ok (.ifCond cd o, 3)) (hc : if_icmp.holds cd x 0 = false) (hp : pc + 3 = pc') (k : own_G p e below P (T.setTop (mkF m pc' Ls st))) : own_G p e below P (T.setTop (mkF m pc Ls (.int x :: st))) := by
  subst hp; exact own_fw (fun t q => XS.ifNo X.here hx rfl hd rfl ((if0 cd x).trans hc) q) k
theorem own_ltL {x y : Int64} (h : x < y) : if_icmp.holds .lt (lcmpW x y) 0 = true ∧ if_icmp.holds .ge (lcmpW x y) 0 = false ∧ if_icmp.holds .gt (lcmpW y x) 0 = true ∧ if_icmp.holds .le (lcmpW y x) 0 = false := by
  have h1 := (lw_lt x y).mpr h
  have h2 := (lw_gt y x).mpr h
  exact ⟨(tlt h1).1, (tlt h1).2.1, (tlt h2).2.2.1, (tlt h2).2.2.2⟩
theorem own_geL {x y : Int64} (h : ¬ x < y) : if_icmp.holds .lt (lcmpW x y) 0 = false ∧ if_icmp.holds .ge (lcmpW x y) 0 = true ∧ if_icmp.holds .gt (lcmpW y x) 0 = false ∧ if_icmp.holds .le (lcmpW y x) 0 = true := by
  have h1 : ¬ lcmpW x y < 0 := fun q => h ((lw_lt x y).mp q)
  have h2 : ¬ 0 < lcmpW y x := fun q => h ((lw_gt y x).mp q)
  exact ⟨(flt h1).1, (flt h1).2.1, (flt h2).2.2.1, (flt h2).2.2.2⟩
theorem own_eqL {x y : Int64} (h : x = y) : if_icmp.holds .eq (lcmpW x y) 0 = true ∧ if_icmp.holds .ne (lcmpW x y) 0 = false := teq ((lw_eq x y).mpr h)
theorem own_neL {x y : Int64} (h : ¬ x = y) : if_icmp.holds .eq (lcmpW x y) 0 = false ∧ if_icmp.holds .ne (lcmpW x y) 0 = true := feq (fun q => h ((lw_eq x y).mp q))
theorem own_bT {P : Prop} [Decidable P] (h : P) : if_icmp.holds .eq (if P then (1 : Int32) else 0) 0 = false ∧ if_icmp.holds .ne (if P then (1 : Int32) else 0) 0 = true := by rw [if_pos h]; exact ⟨rfl, rfl⟩
theorem own_bF {P : Prop} [Decidable P] (h : ¬ P) : if_icmp.holds .eq (if P then (1 : Int32) else 0) 0 = true ∧ if_icmp.holds .ne (if P then (1 : Int32) else 0) 0 = false := by rw [if_neg h]; exact ⟨rfl, rfl⟩
theorem own_b01 {P : Prop} [Decidable P] : (if P then (1 : Int32) else 0) = 0 ∨ (if P then (1 : Int32) else 0) = 1 := by by_cases h : P <;> simp [h]
theorem own_ifnonnullT {o : Int} {b : Addr} (X : Stand p l e R s m args below meth c T locs cells slots) (hx : p.tables.exec = Jvm.exec) (hd : decode c.code pc = .ok (.ifnonnull o, 3)) (ho : 0 ≤ (pc : Int) + o) (hp : ((pc : Int) + o).toNat = pc') (k : own_G p e below P (T.setTop (mkF m pc' Ls st))) : own_G p e below P (T.setTop (mkF m pc Ls (.ref b :: st))) := own_fw (fun t q => XS.ifnonnullYes X.here hx rfl (pc0 := pc) rfl hd rfl ho hp q) k
theorem own_ifnonnullF {o : Int} (X : Stand p l e R s m args below meth c T locs cells slots) (hx : p.tables.exec = Jvm.exec) (hd : decode c.code pc = .ok (.ifnonnull o, 3)) (hp : pc + 3 = pc') (k : own_G p e below P (T.setTop (mkF m pc' Ls st))) : own_G p e below P (T.setTop (mkF m pc Ls (.null :: st))) := by
  subst hp; exact own_fw (fun t q => XS.ifnonnullNo X.here hx rfl hd rfl q) k
theorem own_ifnullT {o : Int} (X : Stand p l e R s m args below meth c T locs cells slots) (hx : p.tables.exec = Jvm.exec) (hd : decode c.code pc = .ok (.ifnull o, 3)) (ho : 0 ≤ (pc : Int) + o) (hp : ((pc : Int) + o).toNat = pc') (k : own_G p e below P (T.setTop (mkF m pc' Ls st))) : own_G p e below P (T.setTop (mkF m pc Ls (.null :: st))) := own_fw (fun t q => XS.ifnullYes X.here hx rfl (pc0 := pc) rfl hd rfl ho hp q) k
theorem own_ifnullF {o : Int} {b : Addr} (X : Stand p l e R s m args below meth c T locs cells slots) (hx : p.tables.exec = Jvm.exec) (hd : decode c.code pc = .ok (.ifnull o, 3)) (hp : pc + 3 = pc') (k : own_G p e below P (T.setTop (mkF m pc' Ls st))) : own_G p e below P (T.setTop (mkF m pc Ls (.ref b :: st))) := by
  subst hp; exact own_fw (fun t q => XS.ifnullNo X.here hx rfl hd rfl q) k
theorem own_acmpT {o : Int} {cd : ACond} {x y : Value} (X : Stand p l e R s m args below meth c T locs cells slots) (hx : p.tables.exec = Jvm.exec) (hd : decode c.code pc = .ok (.if_acmp cd o, 3)) (h1 : x.isRef = true) (h2 : y.isRef = true) (hc : XT.acmp cd x y = true) (ho : 0 ≤ (pc : Int) + o) (hp : ((pc : Int) + o).toNat = pc') (k : own_G p e below P (T.setTop (mkF m pc' Ls st))) : own_G p e below P (T.setTop (mkF m pc Ls (y :: x :: st))) := own_fw (fun t q => XT.acmpYes X.here hx rfl (pc0 := pc) rfl hd rfl h1 h2 hc ho hp q) k
theorem own_acmpF {o : Int} {cd : ACond} {x y : Value} (X : Stand p l e R s m args below meth c T locs cells slots) (hx : p.tables.exec = Jvm.exec) (hd : decode c.code pc = .ok (.if_acmp cd o, 3)) (h1 : x.isRef = true) (h2 : y.isRef = true) (hc : XT.acmp cd x y = false) (hp : pc + 3 = pc') (k : own_G p e below P (T.setTop (mkF m pc' Ls st))) : own_G p e below P (T.setTop (mkF m pc Ls (y :: x :: st))) := by
  subst hp; exact own_fw (fun t q => XT.acmpNo X.here hx rfl hd rfl h1 h2 hc q) k
theorem own_getF (X : Stand p l e R s m args below meth c T locs cells slots) (hx : p.tables.exec = Jvm.exec) (hZ : Z.Warmed39 s.vm) {own O n d : String} {index : Nat} (hown : s.vm.findClass own = some m.cls) (w1 : (Jvm.Cond.fieldLink own index O n d).before a0 Z = true) (eT : T.heap = h) {a : Addr} {v : Value} (F : Fld Z h a O n d v) (hd : decode c.code pc = .ok (.getfield index, 3)) (hp : pc + 3 = pc')
    (k : ∀ T' : State, Stand p l e R s m args below meth c T' locs cells slots → T'.heap = h → own_G p e below P (T'.setTop (mkF m pc' Ls (v :: st)))) : own_G p e below P (T.setTop (mkF m pc Ls (.ref a :: st))) := by
  subst hp
  obtain ⟨T', X', e', st'⟩ := getF X hx hZ hown (host := "") (Or.inl w1) Via.refl eT F (g := mkF m pc Ls (.ref a :: st)) rfl rfl hd
  exact own_fw st' (k T' X' e')
theorem own_putF (X : Stand p l e R s m args below meth c T locs cells slots) (hx : p.tables.exec = Jvm.exec) (hZ : Z.Warmed39 s.vm) {own O n d C : String} {index kk : Nat} {ty : FieldType} (hown : s.vm.findClass own = some m.cls) (w1 : (Jvm.Cond.fieldLink own index O n d).before a0 Z = true) (eT : T.heap = h) {a : Addr} {v old : Value} (F : Fld Z h a O n d old) (E : Exa Z h a C) (L : (Jvm.Cond.lays C O n d).before a0 Z = true ∨ ((Jvm.Cond.laysFinal C O n d).before a0 Z = true ∧ own = O ∧ meth.name = "<init>")) (wi : (Jvm.Cond.instantiable C kk).before a0 Z = true) (hty : parseFieldDescriptor d = some ty) (hn : narrow ty v = v) (hf : fits ty v = true) (hd : decode c.code pc = .ok (.putfield index, 3)) (hp : pc + 3 = pc')
    (k : ∀ (T' : State) (h' : Heap), Stand p l e R s m args below meth c T' (locs ++ [⟨a, RoadKit.slotOf Z O n d⟩]) cells slots → T'.heap = h' → Wr h h' a (RoadKit.slotOf Z O n d) v → own_G p e below P (T'.setTop (mkF m pc' Ls st))) : own_G p e below P (T.setTop (mkF m pc Ls (v :: .ref a :: st))) := by
  subst hp
  obtain ⟨T', h', X', e', W', st'⟩ := putF X hx hZ hown (host := "") (Or.inl w1) Via.refl eT F E L wi hty hn hf (g := mkF m pc Ls (v :: .ref a :: st)) rfl rfl hd
  exact own_fw st' (k T' h' X' e' W')
theorem own_new (X : Stand p l e R s m args below meth c T locs cells slots) (hx : p.tables.exec = Jvm.exec) (hZ : Z.Warmed39 s.vm) {own C : String} {index n : Nat} (hown : s.vm.findClass own = some m.cls) (w1 : (Jvm.Cond.classLink own index C).before a0 Z = true) (wi : (Jvm.Cond.instantiable C n).before a0 Z = true) (wz : (Jvm.Cond.initialized C).before a0 Z = true) (eT : T.heap = h) (hd : decode c.code pc = .ok (.new index, 3)) (hp : pc + 3 = pc') (hc : cells + 1 ≤ R.cells) (hl : slots + n ≤ R.slots)
    (k : ∀ (T' : State) (h' : Heap) (a : Addr), a = h.size → Stand p l e R s m args below meth c T' locs (cells + 1) (slots + n) → T'.heap = h' → Ext h h' → Exa Z h' a C → (∀ {O nm d : String} {ty : FieldType}, Laid Z a0 C O nm d → parseFieldDescriptor d = some ty → Fld Z h' a O nm d (defaultValue ty)) → own_G p e below P (T'.setTop (mkF m pc' Ls (.ref a :: st)))) : own_G p e below P (T.setTop (mkF m pc Ls st)) := by
  subst hp
  obtain ⟨T', h', X', e', E', A', D', -, st'⟩ := newO X hx hZ hown w1 wi wz eT (g := mkF m pc Ls st) rfl hd hc hl
  exact own_fw st' (k T' h' h.size rfl X' e' E' A' D')
theorem own_initO (X : Stand p l e R s m args below meth c T locs cells slots) (hx : p.tables.exec = Jvm.exec) (hZ : Z.Warmed39 s.vm) {own : String} {idx : Nat} (hown : s.vm.findClass own = some m.cls) (w1 : (Jvm.Cond.methodLink own idx Lib.objectInit).before a0 Z = true) (w2 : (Jvm.Cond.instanceMethod Lib.objectInit).before a0 Z = true) (w3 : (Jvm.Cond.code Lib.objectInit object_method_1_code 1 none).before a0 Z = true) (eT : T.heap = h) (hsize : Ls.size = c.maxLocals) {a : Addr} (hd : decode c.code pc = .ok (.invokespecial idx, 3)) (hf : 1 ≤ R.frames) {W : Nat} (hW : (st.map fun v => v.category).sum ≤ W) (hl : W + 12 ≤ R.locals) (hp : pc + 3 = pc')
    (k : ∀ T' : State, Stand p l e R s m args below meth c T' locs cells slots → T'.heap = h → own_G p e below P (T'.setTop (mkF m pc' Ls st))) : own_G p e below P (T.setTop (mkF m pc Ls (.ref a :: st))) := by
  subst hp
  obtain ⟨T', X', e', st'⟩ := initO X hx hZ hown w1 w2 w3 eT (g := mkF m pc Ls (.ref a :: st)) rfl hsize rfl hd hf (W := W) (by show 2 * 0 + _ ≤ _; omega) hl
  exact own_fw st' (k T' X' e')
theorem own_callS (X : Stand p l e R s m args below meth c T locs cells slots) (hx : p.tables.exec = Jvm.exec) (hZ : Z.Warmed39 s.vm) {own : String} {index : Nat} {y : MethodName} {bytes : ByteArray} {maxL : Nat} {ret : Option FieldType} (hown : s.vm.findClass own = some m.cls) (w1 : (Jvm.Cond.methodLink own index y).before a0 Z = true) (w2 : (Jvm.Cond.static y).before a0 Z = true) (w3 : (Jvm.Cond.initialized y.cls).before a0 Z = true) (w4 : (Jvm.Cond.code y bytes maxL ret).before a0 Z = true) (hy : y.cls ≠ "java/lang/invoke/MethodHandle" ∧ y.cls ≠ "java/lang/invoke/VarHandle") {rm : Room} {as' : List Value} {Q' : Option Value → Heap → List Loc → Prop} (hM : own_M l Z y bytes maxL ret [] rm as'.toArray h Q' rm.cells rm.slots) (eT : T.heap = h) {W : Nat} (hf : rm.frames + 1 ≤ R.frames) (hl : W + (maxL + 11) + rm.locals ≤ R.locals) {ps : List FieldType} {r : Option FieldType} (pd : parseMethodDescriptor y.desc = some ⟨ps, r⟩) (hlen : as'.length = ps.length) {stk rest : List Value} (hstk : stk = as'.reverse ++ rest) (hd : decode c.code pc = .ok (.invokestatic index, 3)) (hW : (rest.map fun v => v.category).sum ≤ W) (hsize : Ls.size = c.maxLocals) (hc : cells + rm.cells ≤ R.cells) (hs : slots + rm.slots ≤ R.slots) (hp : pc + 3 = pc')
    (k : ∀ (v : Option Value) (T' : State) (L : List Loc), Stand p l e R s m args below meth c T' (locs ++ L) (cells + rm.cells) (slots + rm.slots) → Q' v T'.heap L → own_G p e below P (T'.setTop (mkF m pc' Ls (v.toList ++ rest)))) : own_G p e below P (T.setTop (mkF m pc Ls stk)) := by
  subst hp hstk
  obtain ⟨v, vm1, ⟨T', L', k', n'⟩, hWm, X', ⟨Lc, hQ', l', y', z'⟩, st'⟩ := Jvm.LawKit.callS X hx (y := y) hown (mvT hZ w1) (mvT hZ w2) (mvT hZ w3) (mvT hZ w4) hy (backOf (W := W) hM hZ w4 w3 hf hl) (g := mkF m pc Ls (as'.reverse ++ rest)) rfl hsize (argsL := as') (rest := rest) (lenOf pd hlen) rfl (by show 2 * 0 + _ ≤ _; omega) hd (fun _ _ => ⟨rfl, eT, hc, hs⟩)
  dsimp only [Pt.U, Pt.locs, Pt.cells, Pt.slots] at X' l' y' z' hQ'
  subst l' y' z'
  exact own_fw st' (k v T' Lc X' hQ')
theorem own_callC (X : Stand p l e R s m args below meth c T locs cells slots) (hx : p.tables.exec = Jvm.exec) (hZ : Z.Warmed39 s.vm) {own : String} {index : Nat} {y : MethodName} {bytes : ByteArray} {maxL : Nat} (hy1 : y.name = "<init>") (hown : s.vm.findClass own = some m.cls) (w1 : (Jvm.Cond.methodLink own index y).before a0 Z = true) (w2 : (Jvm.Cond.instanceMethod y).before a0 Z = true) (w3 : (Jvm.Cond.initialized y.cls).before a0 Z = true) (w4 : (Jvm.Cond.code y bytes maxL none).before a0 Z = true) (hy : y.cls ≠ "java/lang/invoke/MethodHandle" ∧ y.cls ≠ "java/lang/invoke/VarHandle") {a : Addr} {rm : Room} {as' : List Value} {Q' : Option Value → Heap → List Loc → Prop} (hM : own_M l Z y bytes maxL none [] rm (.ref a :: as').toArray h Q' rm.cells rm.slots) (eT : T.heap = h) {W : Nat} (hf : rm.frames + 1 ≤ R.frames) (hl : W + (maxL + 11) + rm.locals ≤ R.locals) {ps : List FieldType} {r : Option FieldType} (pd : parseMethodDescriptor y.desc = some ⟨ps, r⟩) (hlen : as'.length = ps.length) {stk rest : List Value} (hstk : stk = as'.reverse ++ .ref a :: rest) (hd : decode c.code pc = .ok (.invokespecial index, 3)) (hW : (rest.map fun v => v.category).sum ≤ W) (hsize : Ls.size = c.maxLocals) (hc : cells + rm.cells ≤ R.cells) (hs : slots + rm.slots ≤ R.slots) (hp : pc + 3 = pc')
    (k : ∀ (v : Option Value) (T' : State) (L : List Loc), Stand p l e R s m args below meth c T' (locs ++ L) (cells + rm.cells) (slots + rm.slots) → Q' v T'.heap L → own_G p e below P (T'.setTop (mkF m pc' Ls (v.toList ++ rest)))) : own_G p e below P (T.setTop (mkF m pc Ls stk)) := by
  subst hp hstk
  obtain ⟨v, vm1, ⟨T', L', k', n'⟩, hWm, X', ⟨Lc, hQ', l', y', z'⟩, st'⟩ := X.specialBack hx (y := y) hy1 hown (mvT hZ w1) (mvT hZ w2) (mvT hZ w4) hy (backOf (W := W) hM hZ w4 w3 hf hl) (g := mkF m pc Ls (as'.reverse ++ .ref a :: rest)) rfl hsize (Steps.refl _) (a := a) (argsL := as') (rest := rest) (lenOf pd hlen) rfl (by show 2 * 0 + _ ≤ _; omega) hd (fun _ _ => ⟨rfl, eT, hc, hs⟩)
  dsimp only [Pt.U, Pt.locs, Pt.cells, Pt.slots] at X' l' y' z' hQ'
  subst l' y' z'
  exact own_fw (fun t q => st'.trans q) (k v T' Lc X' hQ')
theorem own_callV (X : Stand p l e R s m args below meth c T locs cells slots) (hx : p.tables.exec = Jvm.exec) (hZ : Z.Warmed39 s.vm) {own C : String} {index : Nat} {y : MethodName} {bytes : ByteArray} {maxL : Nat} {ret : Option FieldType} (hown : s.vm.findClass own = some m.cls) (w1 : (Jvm.Cond.methodLink own index y).before a0 Z = true) (w2 : (Jvm.Cond.declares y).before a0 Z = true) (w3 : (Jvm.Cond.selects C y y).before a0 Z = true) (w4 : (Jvm.Cond.instanceMethod y).before a0 Z = true) (w5 : (Jvm.Cond.initialized y.cls).before a0 Z = true) (w6 : (Jvm.Cond.code y bytes maxL ret).before a0 Z = true) (hy : y.cls ≠ "java/lang/invoke/MethodHandle" ∧ y.cls ≠ "java/lang/invoke/VarHandle") {a : Addr} (E : Exa Z h a C) {rm : Room} {as' : List Value} {Q' : Option Value → Heap → List Loc → Prop} (hM : own_M l Z y bytes maxL ret [] rm (.ref a :: as').toArray h Q' rm.cells rm.slots) (eT : T.heap = h) {W : Nat} (hf : rm.frames + 1 ≤ R.frames) (hl : W + (maxL + 11) + rm.locals ≤ R.locals) {ps : List FieldType} {r : Option FieldType} (pd : parseMethodDescriptor y.desc = some ⟨ps, r⟩) (hlen : as'.length = ps.length) {stk rest : List Value} (hstk : stk = as'.reverse ++ .ref a :: rest) (hd : decode c.code pc = .ok (.invokevirtual index, 3)) (hW : (rest.map fun v => v.category).sum ≤ W) (hsize : Ls.size = c.maxLocals) (hc : cells + rm.cells ≤ R.cells) (hs : slots + rm.slots ≤ R.slots) (hp : pc + 3 = pc')
    (k : ∀ (v : Option Value) (T' : State) (L : List Loc), Stand p l e R s m args below meth c T' (locs ++ L) (cells + rm.cells) (slots + rm.slots) → Q' v T'.heap L → own_G p e below P (T'.setTop (mkF m pc' Ls (v.toList ++ rest)))) : own_G p e below P (T.setTop (mkF m pc Ls stk)) := by
  subst hp hstk
  obtain ⟨cq, kq, qa, qb, qc⟩ := isOf hZ eT E
  obtain ⟨v, vm1, ⟨T', L', k', n'⟩, hWm, X', ⟨Lc, hQ', l', y', z'⟩, st'⟩ := X.virtualBack hx (y := y) (z := y) hown (mvT hZ w1) (mvT hZ w2) (notFace_of_selects (args := #[]) (mvT hZ w3)) (mvT hZ w3) (mvT hZ w4) hy (backOf (W := W) hM hZ w6 w5 hf hl) qa qc (g := mkF m pc Ls (as'.reverse ++ .ref a :: rest)) rfl hsize (Steps.refl _) (argsL := as') (rest := rest) (lenOf pd hlen) rfl (by show 2 * 0 + _ ≤ _; omega) hd (fun _ _ => ⟨rfl, eT, hc, hs⟩)
  dsimp only [Pt.U, Pt.locs, Pt.cells, Pt.slots] at X' l' y' z' hQ'
  subst l' y' z'
  exact own_fw (fun t q => st'.trans q) (k v T' Lc X' hQ')
def own_PW (s : State) (Q : Option Value → Heap → List Loc → Prop) (ce sl : Nat) (s₂ : State) (o : Outcome) : Prop := ∃ v L, o = .returned v ∧ Q v s₂.heap L ∧ ReturnedEndW s o s₂ L ce sl
abbrev own_MW (l : Launch) (Z : State) (y : MethodName) (bytes : ByteArray) (maxL : Nat) (ret : Option FieldType) (ws : List Jvm.Cond) (rm : Room) (as' : Array Value) (h0 : Heap) (Q : Option Value → Heap → List Loc → Prop) (ce sl : Nat) : Prop := MetFree l y (head1 (Jvm.Cond.code y bytes maxL ret :: ws) rm) (fun a U => a = as' ∧ Z.Warmed39 U.vm ∧ U.heap = h0) (fun _ _ _ _ _ => True) (fun _ U o U' => ∃ v L, o = .returned v ∧ Q v U'.heap L ∧ ReturnedEndW U o U' L ce sl)
theorem own_bodyW {y : MethodName} {bytes : ByteArray} {maxL : Nat} {ret : Option FieldType} {ws : List Jvm.Cond} {rm : Room} {as' : Array Value} {h0 : Heap} (hp : plainFor y = true)
    (body : ∀ (p : Program) (e : Env) (s : State) (m : MethodId) (below : List Frame) (meth : Method) (c : Code) (s₁ : State), p.tables.exec = Jvm.exec → c.code = bytes → c.maxLocals = maxL → s.vm.findClass y.cls = some m.cls → meth.name = y.name → meth.sig.returnType = ret → meth.locks = false → Z.Warmed39 s.vm → Stand p l e rm s m as' below meth c s₁ [] 0 0 → s₁.heap = h0 → own_G p e below (own_PW s Q ce sl) (s₁.setTop (entryFrame m as' maxL))) : own_MW l Z y bytes maxL ret ws rm as' h0 Q ce sl := by
  refine MetFree.of_bodySF hp hisR ?_
  intro p e s m args below meth c s₁ Bd hml hP hK
  obtain ⟨rfl, hZ, hh⟩ := hP
  exact body p e s m below meth c s₁ Bd.exec Bd.bytes hml (findClass_of_methodNamed Bd.named) (name_of_methodNamed Bd.named Bd.method).1 Bd.returns Bd.notSynchronized hZ (Stand.of_body Bd) (by rw [← hh, Bd.state]; rfl)
theorem own_ldcS (X : Stand p l e R s m args below meth c T locs cells slots) (hx : p.tables.exec = Jvm.exec) (hZ : Z.Warmed39 s.vm) {own text : String} {index : Nat} (hown : s.vm.findClass own = some m.cls) (w1 : (Jvm.Cond.stringLink own index text).before a0 Z = true) (wS : ∀ a ∈ Bundle.stringAtoms, a.before a0 Z = true) (eT : T.heap = h) (hd : decode c.code pc = .ok (.ldc index, 2)) {n : Nat} (hn : 4 * text.toList.length ≤ n) (hbig : n ≤ 536870912) (hc : cells + 2 ≤ R.cells) (hl : slots + (n + 4) ≤ R.slots) (hp : pc + 2 = pc')
    (k : ∀ (a : Addr) (T' : State) (h' : Heap) (k1 : Nat), Stand p l e R (s.setVm T'.vm) m args below meth c T' locs (cells + 2) (slots + (n + 4)) → T'.heap = h' → Ext h h' → s.Since T'.vm k1 → k1 ≤ h'.size → Z.Warmed39 (s.setVm T'.vm).vm → (s.setVm T'.vm).vm.findClass own = some m.cls → own_G p e below P (T'.setTop (mkF m pc' Ls (.ref a :: st)))) : own_G p e below P (T.setTop (mkF m pc Ls st)) := by
  subst hp
  obtain ⟨a, T', h', k1, X', e', E', S', q', z', o', st'⟩ := ldcS (s := s) (vm0 := s.vm) X hx hZ hown w1 wS eT (State.WarmedH.since (State.WarmedH.refl s) 0) (Nat.zero_le _) (g := mkF m pc Ls st) rfl hd hn hbig hc hl
  exact own_fw st' (k a T' h' k1 X' e' E' S' q' z' o')
theorem own_retZW {vm1 : Vm} (X : Stand p l e R (s.setVm vm1) m args below meth c T locs cells slots) (hx : p.tables.exec = Jvm.exec) {k1 : Nat} (hS : s.Since vm1 k1) (hk : k1 ≤ T.heap.size) {z : Int32} (hret : meth.sig.returnType = some .boolean) (hlk : meth.locks = false) (hz : z = 0 ∨ z = 1) (hd : decode c.code pc = .ok (.ireturn, 1)) (hQ : Q (some (.int z)) T.heap locs) (hce : cells ≤ ce) (hsl : slots ≤ sl) : own_G p e below (own_PW s Q ce sl) (T.setTop (mkF m pc Ls (.int z :: st))) := by
  obtain ⟨fs, hr, hrun, hended, h1, h2, h3, h4⟩ := X.leaveW hS hk (v := some (.int z)) (fun h => by rw [hret] at h; cases h) hlk
  exact ⟨_, _, retOut X hx hret (by rcases hz with rfl | rfl <;> rfl) (Or.inl ⟨rfl, Or.inr (Or.inl rfl), z, rfl⟩) hd hr, hrun, hended, _, _, rfl, hQ, h1, h2, h3, h4.mono hce hsl⟩
end OwnHead
section OwnArr
variable {p : Program} {l : Launch} {e : Env} {R : Room} {s : State} {m : MethodId} {args : Array Value} {below : List Frame} {meth : Method} {c : Code} {T : State} {locs : List Loc} {cells slots : Nat} {Z : State} {a0 : Array Value} {h : Heap} {Q : Option Value → Heap → List Loc → Prop} {P : State → Outcome → Prop} {ce sl : Nat} {pc pc' : Nat} {Ls : Array Slot} {st : List Value} {h' : Heap} {a b : Addr} {ty : FieldType} {z : Int32} {ws : List Addr} {v : Value} {sx : Nat}
def own_AI (Z : State) (h : Heap) (a : Addr) (ty : FieldType) (z : Int32) (g : Nat → Int32) : Prop := ∃ c : Cell, Arr Z h a c ty ∧ c.slots.size = z.toNatClampNeg ∧ ¬ z < 0 ∧ ∀ i, i < c.slots.size → c.slots[i]? = some (.int (g i))
theorem own_AI.lt {g : Nat → Int32} (F : own_AI Z h a ty z g) : a < h.size := by obtain ⟨c, A, -⟩ := F; exact A.lt
theorem own_AI.ext {g : Nat → Int32} (F : own_AI Z h a ty z g) (E : Ext h h') : own_AI Z h' a ty z g := by obtain ⟨c, A, r⟩ := F; exact ⟨c, A.ext E, r⟩
theorem own_AI.other {g : Nat → Int32} (F : own_AI Z h a ty z g) (W : Wr h h' b sx v) (q : a ≠ b) : own_AI Z h' a ty z g := by obtain ⟨c, A, r⟩ := F; exact ⟨c, A.other W q, r⟩
theorem own_AI.keep {g : Nat → Int32} (F : own_AI Z h a ty z g) (Kp : Keep h h' ws) (q : a ∉ ws) : own_AI Z h' a ty z g := by obtain ⟨c, A, r⟩ := F; exact ⟨c, ⟨Kp.2.1 a c A.1 q, A.2⟩, r⟩
theorem own_AI.same {g g' : Nat → Int32} (F : own_AI Z h a ty z g) (q : ∀ i, i < z.toNatClampNeg → g' i = g i) : own_AI Z h a ty z g' := by obtain ⟨c, A, r1, r2, r3⟩ := F; exact ⟨c, A, r1, r2, fun i hi => by rw [q i (r1 ▸ hi)]; exact r3 i hi⟩
theorem own_AI.set {g g' : Nat → Int32} (F : own_AI Z h a ty z g) {j : Int32} {x : Int32} (W : Wr h h' a j.toNatClampNeg (.int x)) (q : ∀ i, i < z.toNatClampNeg → g' i = if i = j.toNatClampNeg then x else g i) : own_AI Z h' a ty z g' := by
  obtain ⟨c, A, r1, r2, r3⟩ := F
  refine ⟨_, A.same W, (sz_set _ _ _).trans r1, r2, fun i hi => ?_⟩
  rw [sz_set] at hi
  rw [q i (r1 ▸ hi)]
  by_cases e : i = j.toNatClampNeg
  · subst e; rw [if_pos rfl]; simp [Cell.setSlot, hi]
  · rw [if_neg e]; exact (Array.getElem?_setIfInBounds_ne (Ne.symm e)).trans (r3 i hi)
def own_LI (l : List Int32) (i : Nat) : Int32 := l.getD i 0
theorem own_LI_set (l : List Int32) (k : Nat) (x : Int32) (hk : k < l.length) (i : Nat) : own_LI (l.set k x) i = if i = k then x else own_LI l i := by
  unfold own_LI
  by_cases e : i = k
  · subst e; simp [List.getD, hk]
  · rw [if_neg e]; simp [List.getD, List.getElem?_set_ne (Ne.symm e)]
theorem own_newAI (X : Stand p l e R s m args below meth c T locs cells slots) (hx : p.tables.exec = Jvm.exec) (hZ : Z.Warmed39 s.vm) {aty : ArrayType} {ty : FieldType} (hty : newarray.typeOf aty = ty) (w1 : (Jvm.Cond.arrayClass ty).before a0 Z = true) (eT : T.heap = h) {n : Int32} (hd : decode c.code pc = .ok (.newarray aty, 2)) (hp : pc + 2 = pc') (hn : ¬ n < 0) {cap : Nat} (hcap : n.toNatClampNeg ≤ cap) (hb : cap * 8 ≤ 536870912) (hc : cells + 1 ≤ R.cells) (hl : slots + cap ≤ R.slots) (hdv : defaultValue ty = .int 0)
    (k : ∀ (T' : State) (h' : Heap) (a : Addr), a = h.size → Stand p l e R s m args below meth c T' locs (cells + 1) (slots + cap) → T'.heap = h' → Ext h h' → own_AI Z h' a ty n (fun _ => 0) → own_G p e below P (T'.setTop (mkF m pc' Ls (.ref a :: st)))) : own_G p e below P (T.setTop (mkF m pc Ls (.int n :: st))) := by
  subst hp hty
  obtain ⟨T', h', cA, X', e', E', A', st'⟩ := newP X hx hZ w1 eT (g := mkF m pc Ls (.int n :: st)) rfl hd rfl hn hcap hb hc hl
  refine own_fw st' (k T' h' h.size rfl X' e' E' ⟨_, A', sz_new _ _ _, hn, fun i hi => ?_⟩)
  rw [sz_new] at hi
  rw [← hdv]
  simp [newA, hi]
theorem own_lenI (X : Stand p l e R s m args below meth c T locs cells slots) (hx : p.tables.exec = Jvm.exec) (hZ : Z.Warmed39 s.vm) (eT : T.heap = h) {ty : FieldType} {g : Nat → Int32} (A : own_AI Z h a ty z g) (hd : decode c.code pc = .ok (.arraylength, 1)) (hp : pc + 1 = pc') (k : own_G p e below P (T.setTop (mkF m pc' Ls (.int z :: st)))) : own_G p e below P (T.setTop (mkF m pc Ls (.ref a :: st))) := by
  subst hp
  obtain ⟨cl, A1, r1, r2, r3⟩ := A
  rw [← len_of r1 r2] at k
  exact own_fw (fun t q => X.arraylength hx (by rw [eT]; exact A1.1) (State.isArrayOf_alike hZ.alike A1.2.1) (g := mkF m pc Ls (.ref a :: st)) rfl rfl hd _ q) k
def own_AJ (Z : State) (h : Heap) (a : Addr) (ty : FieldType) (z : Int32) (g : Nat → Int64) : Prop := ∃ c : Cell, Arr Z h a c ty ∧ c.slots.size = z.toNatClampNeg ∧ ¬ z < 0 ∧ ∀ i, i < c.slots.size → c.slots[i]? = some (.long (g i))
theorem own_AJ.lt {g : Nat → Int64} (F : own_AJ Z h a ty z g) : a < h.size := by obtain ⟨c, A, -⟩ := F; exact A.lt
theorem own_AJ.ext {g : Nat → Int64} (F : own_AJ Z h a ty z g) (E : Ext h h') : own_AJ Z h' a ty z g := by obtain ⟨c, A, r⟩ := F; exact ⟨c, A.ext E, r⟩
theorem own_AJ.other {g : Nat → Int64} (F : own_AJ Z h a ty z g) (W : Wr h h' b sx v) (q : a ≠ b) : own_AJ Z h' a ty z g := by obtain ⟨c, A, r⟩ := F; exact ⟨c, A.other W q, r⟩
theorem own_AJ.keep {g : Nat → Int64} (F : own_AJ Z h a ty z g) (Kp : Keep h h' ws) (q : a ∉ ws) : own_AJ Z h' a ty z g := by obtain ⟨c, A, r⟩ := F; exact ⟨c, ⟨Kp.2.1 a c A.1 q, A.2⟩, r⟩
theorem own_AJ.same {g g' : Nat → Int64} (F : own_AJ Z h a ty z g) (q : ∀ i, i < z.toNatClampNeg → g' i = g i) : own_AJ Z h a ty z g' := by obtain ⟨c, A, r1, r2, r3⟩ := F; exact ⟨c, A, r1, r2, fun i hi => by rw [q i (r1 ▸ hi)]; exact r3 i hi⟩
theorem own_AJ.set {g g' : Nat → Int64} (F : own_AJ Z h a ty z g) {j : Int32} {x : Int64} (W : Wr h h' a j.toNatClampNeg (.long x)) (q : ∀ i, i < z.toNatClampNeg → g' i = if i = j.toNatClampNeg then x else g i) : own_AJ Z h' a ty z g' := by
  obtain ⟨c, A, r1, r2, r3⟩ := F
  refine ⟨_, A.same W, (sz_set _ _ _).trans r1, r2, fun i hi => ?_⟩
  rw [sz_set] at hi
  rw [q i (r1 ▸ hi)]
  by_cases e : i = j.toNatClampNeg
  · subst e; rw [if_pos rfl]; simp [Cell.setSlot, hi]
  · rw [if_neg e]; exact (Array.getElem?_setIfInBounds_ne (Ne.symm e)).trans (r3 i hi)
def own_LJ (l : List Int64) (i : Nat) : Int64 := l.getD i 0
theorem own_LJ_set (l : List Int64) (k : Nat) (x : Int64) (hk : k < l.length) (i : Nat) : own_LJ (l.set k x) i = if i = k then x else own_LJ l i := by
  unfold own_LJ
  by_cases e : i = k
  · subst e; simp [List.getD, hk]
  · rw [if_neg e]; simp [List.getD, List.getElem?_set_ne (Ne.symm e)]
theorem own_newAJ (X : Stand p l e R s m args below meth c T locs cells slots) (hx : p.tables.exec = Jvm.exec) (hZ : Z.Warmed39 s.vm) {aty : ArrayType} {ty : FieldType} (hty : newarray.typeOf aty = ty) (w1 : (Jvm.Cond.arrayClass ty).before a0 Z = true) (eT : T.heap = h) {n : Int32} (hd : decode c.code pc = .ok (.newarray aty, 2)) (hp : pc + 2 = pc') (hn : ¬ n < 0) {cap : Nat} (hcap : n.toNatClampNeg ≤ cap) (hb : cap * 8 ≤ 536870912) (hc : cells + 1 ≤ R.cells) (hl : slots + cap ≤ R.slots) (hdv : defaultValue ty = .long 0)
    (k : ∀ (T' : State) (h' : Heap) (a : Addr), a = h.size → Stand p l e R s m args below meth c T' locs (cells + 1) (slots + cap) → T'.heap = h' → Ext h h' → own_AJ Z h' a ty n (fun _ => 0) → own_G p e below P (T'.setTop (mkF m pc' Ls (.ref a :: st)))) : own_G p e below P (T.setTop (mkF m pc Ls (.int n :: st))) := by
  subst hp hty
  obtain ⟨T', h', cA, X', e', E', A', st'⟩ := newP X hx hZ w1 eT (g := mkF m pc Ls (.int n :: st)) rfl hd rfl hn hcap hb hc hl
  refine own_fw st' (k T' h' h.size rfl X' e' E' ⟨_, A', sz_new _ _ _, hn, fun i hi => ?_⟩)
  rw [sz_new] at hi
  rw [← hdv]
  simp [newA, hi]
theorem own_lenJ (X : Stand p l e R s m args below meth c T locs cells slots) (hx : p.tables.exec = Jvm.exec) (hZ : Z.Warmed39 s.vm) (eT : T.heap = h) {ty : FieldType} {g : Nat → Int64} (A : own_AJ Z h a ty z g) (hd : decode c.code pc = .ok (.arraylength, 1)) (hp : pc + 1 = pc') (k : own_G p e below P (T.setTop (mkF m pc' Ls (.int z :: st)))) : own_G p e below P (T.setTop (mkF m pc Ls (.ref a :: st))) := by
  subst hp
  obtain ⟨cl, A1, r1, r2, r3⟩ := A
  rw [← len_of r1 r2] at k
  exact own_fw (fun t q => X.arraylength hx (by rw [eT]; exact A1.1) (State.isArrayOf_alike hZ.alike A1.2.1) (g := mkF m pc Ls (.ref a :: st)) rfl rfl hd _ q) k
theorem own_baload (X : Stand p l e R s m args below meth c T locs cells slots) (hx : p.tables.exec = Jvm.exec) (hZ : Z.Warmed39 s.vm) (eT : T.heap = h) {g : Nat → Int32} (A : own_AI Z h a .byte z g) {j : Int32} {x : Int32} (hj : ¬ j < 0 ∧ j < z) (hv : g j.toNatClampNeg = x) (hd : decode c.code pc = .ok (.baload, 1)) (hp : pc + 1 = pc') (k : own_G p e below P (T.setTop (mkF m pc' Ls (.int x :: st)))) : own_G p e below P (T.setTop (mkF m pc Ls (.int j :: .ref a :: st))) := by
  subst hp hv
  obtain ⟨cl, A1, r1, r2, r3⟩ := A
  have hin := inb_of r1 hj
  exact own_fw (fun t q => X.baloadBytes hx (j := j) (by rw [eT]; exact A1.1) (State.isArrayOf_alike hZ.alike A1.2.1) A1.2.2 hin (r3 _ (Nat.lt_of_not_le fun q => hin (Or.inr q))) (g := mkF m pc Ls (.int j :: .ref a :: st)) rfl rfl hd _ q) k
theorem own_iaload (X : Stand p l e R s m args below meth c T locs cells slots) (hx : p.tables.exec = Jvm.exec) (hZ : Z.Warmed39 s.vm) (eT : T.heap = h) {g : Nat → Int32} (A : own_AI Z h a .int z g) {j : Int32} {x : Int32} (hj : ¬ j < 0 ∧ j < z) (hv : g j.toNatClampNeg = x) (hd : decode c.code pc = .ok (.iaload, 1)) (hp : pc + 1 = pc') (k : own_G p e below P (T.setTop (mkF m pc' Ls (.int x :: st)))) : own_G p e below P (T.setTop (mkF m pc Ls (.int j :: .ref a :: st))) := by
  subst hp hv
  obtain ⟨cl, A1, r1, r2, r3⟩ := A
  have hin := inb_of r1 hj
  exact own_fw (fun t q => X.iaload hx (j := j) (by rw [eT]; exact A1.1) (State.isArrayOf_alike hZ.alike A1.2.1) A1.2.2 hin (r3 _ (Nat.lt_of_not_le fun q => hin (Or.inr q))) (g := mkF m pc Ls (.int j :: .ref a :: st)) rfl rfl hd _ q) k
theorem own_laload (X : Stand p l e R s m args below meth c T locs cells slots) (hx : p.tables.exec = Jvm.exec) (hZ : Z.Warmed39 s.vm) (eT : T.heap = h) {g : Nat → Int64} (A : own_AJ Z h a .long z g) {j : Int32} {x : Int64} (hj : ¬ j < 0 ∧ j < z) (hv : g j.toNatClampNeg = x) (hd : decode c.code pc = .ok (.laload, 1)) (hp : pc + 1 = pc') (k : own_G p e below P (T.setTop (mkF m pc' Ls (.long x :: st)))) : own_G p e below P (T.setTop (mkF m pc Ls (.int j :: .ref a :: st))) := by
  subst hp hv
  obtain ⟨cl, A1, r1, r2, r3⟩ := A
  have hin := inb_of r1 hj
  exact own_fw (fun t q => X.laload hx (j := j) (by rw [eT]; exact A1.1) (State.isArrayOf_alike hZ.alike A1.2.1) A1.2.2 hin (r3 _ (Nat.lt_of_not_le fun q => hin (Or.inr q))) (g := mkF m pc Ls (.int j :: .ref a :: st)) rfl rfl hd _ q) k
theorem own_bastore (X : Stand p l e R s m args below meth c T locs cells slots) (hx : p.tables.exec = Jvm.exec) (hZ : Z.Warmed39 s.vm) (eT : T.heap = h) {g g' : Nat → Int32} (A : own_AI Z h a .byte z g) {j : Int32} {x x' : Int32} (hj : ¬ j < 0 ∧ j < z) (hx' : (nar .byte x) = x') (hg : ∀ i, i < z.toNatClampNeg → g' i = if i = j.toNatClampNeg then x' else g i) (hd : decode c.code pc = .ok (.bastore, 1)) (hp : pc + 1 = pc') (k : ∀ (T' : State) (h' : Heap), Stand p l e R s m args below meth c T' (locs ++ [⟨a, j.toNatClampNeg⟩]) cells slots → T'.heap = h' → Wr h h' a j.toNatClampNeg (.int x') → own_AI Z h' a .byte z g' → own_G p e below P (T'.setTop (mkF m pc' Ls st))) : own_G p e below P (T.setTop (mkF m pc Ls (.int x :: .int j :: .ref a :: st))) := by
  subst hp hx'
  have A0 := A
  obtain ⟨cl, A1, r1, r2, r3⟩ := A
  obtain ⟨T', h', X', e', W', st'⟩ := stB X hx hZ eT A1 (inb_of r1 hj) (g := mkF m pc Ls (.int x :: .int j :: .ref a :: st)) rfl rfl hd
  exact own_fw st' (k T' h' X' e' W' (A0.set W' hg))
theorem own_iastore (X : Stand p l e R s m args below meth c T locs cells slots) (hx : p.tables.exec = Jvm.exec) (hZ : Z.Warmed39 s.vm) (eT : T.heap = h) {g g' : Nat → Int32} (A : own_AI Z h a .int z g) {j : Int32} {x x' : Int32} (hj : ¬ j < 0 ∧ j < z) (hx' : x = x') (hg : ∀ i, i < z.toNatClampNeg → g' i = if i = j.toNatClampNeg then x' else g i) (hd : decode c.code pc = .ok (.iastore, 1)) (hp : pc + 1 = pc') (k : ∀ (T' : State) (h' : Heap), Stand p l e R s m args below meth c T' (locs ++ [⟨a, j.toNatClampNeg⟩]) cells slots → T'.heap = h' → Wr h h' a j.toNatClampNeg (.int x') → own_AI Z h' a .int z g' → own_G p e below P (T'.setTop (mkF m pc' Ls st))) : own_G p e below P (T.setTop (mkF m pc Ls (.int x :: .int j :: .ref a :: st))) := by
  subst hp hx'
  have A0 := A
  obtain ⟨cl, A1, r1, r2, r3⟩ := A
  obtain ⟨T', h', X', e', W', st'⟩ := stI X hx hZ eT A1 (inb_of r1 hj) (g := mkF m pc Ls (.int x :: .int j :: .ref a :: st)) rfl rfl hd
  exact own_fw st' (k T' h' X' e' W' (A0.set W' hg))
theorem own_lastore (X : Stand p l e R s m args below meth c T locs cells slots) (hx : p.tables.exec = Jvm.exec) (hZ : Z.Warmed39 s.vm) (eT : T.heap = h) {g g' : Nat → Int64} (A : own_AJ Z h a .long z g) {j : Int32} {x x' : Int64} (hj : ¬ j < 0 ∧ j < z) (hx' : x = x') (hg : ∀ i, i < z.toNatClampNeg → g' i = if i = j.toNatClampNeg then x' else g i) (hd : decode c.code pc = .ok (.lastore, 1)) (hp : pc + 1 = pc') (k : ∀ (T' : State) (h' : Heap), Stand p l e R s m args below meth c T' (locs ++ [⟨a, j.toNatClampNeg⟩]) cells slots → T'.heap = h' → Wr h h' a j.toNatClampNeg (.long x') → own_AJ Z h' a .long z g' → own_G p e below P (T'.setTop (mkF m pc' Ls st))) : own_G p e below P (T.setTop (mkF m pc Ls (.long x :: .int j :: .ref a :: st))) := by
  subst hp hx'
  have A0 := A
  obtain ⟨cl, A1, r1, r2, r3⟩ := A
  obtain ⟨T', h', X', e', W', st'⟩ := stJ X hx hZ eT A1 (inb_of r1 hj) (g := mkF m pc Ls (.long x :: .int j :: .ref a :: st)) rfl rfl hd
  exact own_fw st' (k T' h' X' e' W' (A0.set W' hg))
theorem own_newE (X : Stand p l e R s m args below meth c T locs cells slots) (hx : p.tables.exec = Jvm.exec) (hZ : Z.Warmed39 s.vm) (w1 : (Jvm.Cond.arrayClass .long).before a0 Z = true) (eT : T.heap = h) {n : Int32} (hd : decode c.code pc = .ok (.newarray .long, 2)) (hp : pc + 2 = pc') (hn : ¬ n < 0) {cap : Nat} (hcap : n.toNatClampNeg ≤ cap) (hb : cap * 8 ≤ 536870912) (hc : cells + 1 ≤ R.cells) (hl : slots + cap ≤ R.slots)
    (k : ∀ (T' : State) (h' : Heap) (a : Addr), a = h.size → Stand p l e R s m args below meth c T' locs (cells + 1) (slots + cap) → T'.heap = h' → Ext h h' → own_AJ Z h' a .long n (fun _ => 0) → Exa Z h' a "[J" → own_G p e below P (T'.setTop (mkF m pc' Ls (.ref a :: st)))) : own_G p e below P (T.setTop (mkF m pc Ls (.int n :: st))) := by
  subst hp
  obtain ⟨T', h', cA, X', e', E', A', B', st'⟩ := newPE X hx hZ (aty := .long) w1 eT (g := mkF m pc Ls (.int n :: st)) rfl hd rfl hn hcap hb hc hl (ad := "[J") (by decide)
  refine own_fw st' (k T' h' h.size rfl X' e' E' ⟨_, A', sz_new _ _ _, hn, fun i hi => ?_⟩ B')
  rw [sz_new] at hi
  show _ = some (defaultValue (newarray.typeOf .long))
  simp [newA, hi]
theorem own_clone (X : Stand p l e R s m args below meth c T locs cells slots) (hx : p.tables.exec = Jvm.exec) (hZ : Z.Warmed39 s.vm) {own : String} {index : Nat} (hown : s.vm.findClass own = some m.cls) (w1 : (Jvm.Cond.methodLink own index ⟨"[J", "clone", "()Ljava/lang/Object;"⟩).before a0 Z = true) (w2 : (Jvm.Cond.sameMethod "[J" "java/lang/Object" "clone" "()Ljava/lang/Object;").before a0 Z = true) (w3 : (Jvm.Cond.native ⟨"java/lang/Object", "clone", "()Ljava/lang/Object;"⟩).before a0 Z = true)
    (w4 : (Jvm.Cond.instanceMethod ⟨"java/lang/Object", "clone", "()Ljava/lang/Object;"⟩).before a0 Z = true) (w5 : (Jvm.Cond.selects "[J" ⟨"[J", "clone", "()Ljava/lang/Object;"⟩ ⟨"java/lang/Object", "clone", "()Ljava/lang/Object;"⟩).before a0 Z = true) (w6 : (Jvm.Cond.castable "[J" "java/lang/Cloneable").before a0 Z = true)
    (eT : T.heap = h) {g : Nat → Int64} (A : own_AJ Z h a .long z g) (E : Exa Z h a "[J") (hsize : Ls.size = c.maxLocals) (hd : decode c.code pc = .ok (.invokevirtual index, 3)) (hf : 1 ≤ R.frames) {W cap : Nat} (hW : (st.map fun v => v.category).sum ≤ W) (hl : W + 14 ≤ R.locals) (hcap : z.toNatClampNeg ≤ cap) (hc : cells + 1 ≤ R.cells) (hsl : slots + cap ≤ R.slots) (hp : pc + 3 = pc')
    (k : ∀ (T' : State) (h' : Heap) (b : Addr), b = h.size → Stand p l e R s m args below meth c T' locs (cells + 1) (slots + cap) → T'.heap = h' → Ext h h' → own_AJ Z h' b .long z g → Exa Z h' b "[J" → own_G p e below P (T'.setTop (mkF m pc' Ls (.ref b :: st)))) : own_G p e below P (T.setTop (mkF m pc Ls (.ref a :: st))) := by
  subst hp
  obtain ⟨cl, A1, r1, r2, r3⟩ := A
  have FC : FitC Z cl := fitC_of A1 fun i hi v hv => by rw [r3 i hi] at hv; cases hv; rfl
  obtain ⟨T', h', X', e', ex, A', E', st'⟩ := cloneA X hx hZ hown w1 w2 w3 w4 w5 w6 eT A1 E FC (g := mkF m pc Ls (.ref a :: st)) rfl hsize rfl hd hf (W := W) (cap := cap) (by show 2 * 0 + _ ≤ _; omega) hl (by rw [r1]; exact hcap) hc hsl
  exact own_fw st' (k T' h' h.size rfl X' e' ex ⟨_, A', r1, r2, r3⟩ E')
theorem own_checkcast (X : Stand p l e R s m args below meth c T locs cells slots) (hx : p.tables.exec = Jvm.exec) (hZ : Z.Warmed39 s.vm) {own K : String} {index : Nat} (hown : s.vm.findClass own = some m.cls) (w1 : (Jvm.Cond.classLink own index K).before a0 Z = true) (eT : T.heap = h) (E : Exa Z h a K) (hd : decode c.code pc = .ok (.checkcast index, 3)) (hp : pc + 3 = pc') (k : ∀ T' : State, Stand p l e R s m args below meth c T' locs cells slots → T'.heap = h → own_G p e below P (T'.setTop (mkF m pc' Ls (.ref a :: st)))) : own_G p e below P (T.setTop (mkF m pc Ls (.ref a :: st))) := by
  subst hp
  obtain ⟨T', X', e', st'⟩ := castY X hx hZ hown w1 eT (Ins.self E) (g := mkF m pc Ls (.ref a :: st)) rfl rfl hd
  exact own_fw st' (k T' X' e')
theorem own_nar (y : Int32) : nar .byte y.toInt8.toInt32 = y.toInt8.toInt32 := by
  show y.toInt8.toInt32.toInt8.toInt32 = _
  rw [Int8.toInt8_toInt32]
end OwnArr
theorem od_prog_25_method_1_0 : decode prog_25_method_1_code 0 = .ok (.aload_n 0, 1) := by decide +kernel
theorem od_prog_25_method_1_1 : decode prog_25_method_1_code 1 = .ok (.invokespecial 1, 3) := by decide +kernel
theorem ow_8 {Z : State} {a0 : Array Value} (hw : ∀ d ∈ tables_1, d.before a0 Z = true) : (Jvm.Cond.methodLink "com/example/binlease/binlease/model/Server" (1 : Nat) ({ cls := "java/lang/Object", name := "<init>", desc := "()V" } : Jvm.MethodName)).before a0 Z = true := hw _ (List.mem_of_getElem? (i := 8) rfl)
theorem ow_9 {Z : State} {a0 : Array Value} (hw : ∀ d ∈ tables_1, d.before a0 Z = true) : (Jvm.Cond.instanceMethod ({ cls := "java/lang/Object", name := "<init>", desc := "()V" } : Jvm.MethodName)).before a0 Z = true := hw _ (List.mem_of_getElem? (i := 9) rfl)
theorem ow_10 {Z : State} {a0 : Array Value} (hw : ∀ d ∈ tables_1, d.before a0 Z = true) : (Jvm.Cond.code ({ cls := "java/lang/Object", name := "<init>", desc := "()V" } : Jvm.MethodName) object_method_1_code (1 : Nat) (Option.none : Option Jvm.ClassFile.FieldType)).before a0 Z = true := hw _ (List.mem_of_getElem? (i := 10) rfl)
theorem od_prog_25_method_1_4 : decode prog_25_method_1_code 4 = .ok (.aload_n 0, 1) := by decide +kernel
theorem od_prog_25_method_1_5 : decode prog_25_method_1_code 5 = .ok (.iconst 1, 1) := by decide +kernel
theorem od_prog_25_method_1_6 : decode prog_25_method_1_code 6 = .ok (.putfield 7, 3) := by decide +kernel
theorem ow_11 {Z : State} {a0 : Array Value} (hw : ∀ d ∈ tables_1, d.before a0 Z = true) : (Jvm.Cond.fieldLink "com/example/binlease/binlease/model/Server" (7 : Nat) "com/example/binlease/binlease/model/Server" "open" "Z").before a0 Z = true := hw _ (List.mem_of_getElem? (i := 11) rfl)
theorem ow_12 {Z : State} {a0 : Array Value} (hw : ∀ d ∈ tables_1, d.before a0 Z = true) : (Jvm.Cond.lays "com/example/binlease/binlease/model/Server" "com/example/binlease/binlease/model/Server" "open" "Z").before a0 Z = true := hw _ (List.mem_of_getElem? (i := 12) rfl)
theorem ow_3 {Z : State} {a0 : Array Value} (hw : ∀ d ∈ tables_1, d.before a0 Z = true) : (Jvm.Cond.instantiable "com/example/binlease/binlease/model/Server" (7 : Nat)).before a0 Z = true := hw _ (List.mem_of_getElem? (i := 3) rfl)
theorem od_prog_25_method_1_9 : decode prog_25_method_1_code 9 = .ok (.aload_n 0, 1) := by decide +kernel
theorem od_prog_25_method_1_10 : decode prog_25_method_1_code 10 = .ok (.iload_n 1, 1) := by decide +kernel
theorem od_prog_25_method_1_11 : decode prog_25_method_1_code 11 = .ok (.putfield 13, 3) := by decide +kernel
theorem ow_13 {Z : State} {a0 : Array Value} (hw : ∀ d ∈ tables_1, d.before a0 Z = true) : (Jvm.Cond.fieldLink "com/example/binlease/binlease/model/Server" (13 : Nat) "com/example/binlease/binlease/model/Server" "number" "I").before a0 Z = true := hw _ (List.mem_of_getElem? (i := 13) rfl)
theorem ow_14 {Z : State} {a0 : Array Value} (hw : ∀ d ∈ tables_1, d.before a0 Z = true) : (Jvm.Cond.laysFinal "com/example/binlease/binlease/model/Server" "com/example/binlease/binlease/model/Server" "number" "I").before a0 Z = true := hw _ (List.mem_of_getElem? (i := 14) rfl)
theorem osn_0 {Z : State} {a0 : Array Value} (hw : ∀ d ∈ tables_1, d.before a0 Z = true) : RoadKit.slotOf Z "com/example/binlease/binlease/model/Server" "number" "I" ≠ RoadKit.slotOf Z "com/example/binlease/binlease/model/Server" "open" "Z" := slot_ne (C := "com/example/binlease/binlease/model/Server") (Or.inr (ow_14 hw)) (Or.inl (ow_12 hw)) (by decide) (t := .int) (t' := .boolean) (by decide) (by decide)
theorem od_prog_25_method_1_14 : decode prog_25_method_1_code 14 = .ok (.aload_n 0, 1) := by decide +kernel
theorem od_prog_25_method_1_15 : decode prog_25_method_1_code 15 = .ok (.aload_n 2, 1) := by decide +kernel
theorem od_prog_25_method_1_16 : decode prog_25_method_1_code 16 = .ok (.invokevirtual 17, 3) := by decide +kernel
theorem ow_15 {Z : State} {a0 : Array Value} (hw : ∀ d ∈ tables_1, d.before a0 Z = true) : (Jvm.Cond.methodLink "com/example/binlease/binlease/model/Server" (17 : Nat) ({ cls := "[J", name := "clone", desc := "()Ljava/lang/Object;" } : Jvm.MethodName)).before a0 Z = true := hw _ (List.mem_of_getElem? (i := 15) rfl)
theorem ow_16 {Z : State} {a0 : Array Value} (hw : ∀ d ∈ tables_1, d.before a0 Z = true) : (Jvm.Cond.sameMethod "[J" "java/lang/Object" "clone" "()Ljava/lang/Object;").before a0 Z = true := hw _ (List.mem_of_getElem? (i := 16) rfl)
theorem ow_20 {Z : State} {a0 : Array Value} (hw : ∀ d ∈ tables_1, d.before a0 Z = true) : (Jvm.Cond.native ({ cls := "java/lang/Object", name := "clone", desc := "()Ljava/lang/Object;" } : Jvm.MethodName)).before a0 Z = true := hw _ (List.mem_of_getElem? (i := 20) rfl)
theorem ow_18 {Z : State} {a0 : Array Value} (hw : ∀ d ∈ tables_1, d.before a0 Z = true) : (Jvm.Cond.instanceMethod ({ cls := "java/lang/Object", name := "clone", desc := "()Ljava/lang/Object;" } : Jvm.MethodName)).before a0 Z = true := hw _ (List.mem_of_getElem? (i := 18) rfl)
theorem ow_19 {Z : State} {a0 : Array Value} (hw : ∀ d ∈ tables_1, d.before a0 Z = true) : (Jvm.Cond.selects "[J" ({ cls := "[J", name := "clone", desc := "()Ljava/lang/Object;" } : Jvm.MethodName) ({ cls := "java/lang/Object", name := "clone", desc := "()Ljava/lang/Object;" } : Jvm.MethodName)).before a0 Z = true := hw _ (List.mem_of_getElem? (i := 19) rfl)
theorem ow_21 {Z : State} {a0 : Array Value} (hw : ∀ d ∈ tables_1, d.before a0 Z = true) : (Jvm.Cond.castable "[J" "java/lang/Cloneable").before a0 Z = true := hw _ (List.mem_of_getElem? (i := 21) rfl)
theorem od_prog_25_method_1_19 : decode prog_25_method_1_code 19 = .ok (.checkcast 18, 3) := by decide +kernel
theorem ow_22 {Z : State} {a0 : Array Value} (hw : ∀ d ∈ tables_1, d.before a0 Z = true) : (Jvm.Cond.classLink "com/example/binlease/binlease/model/Server" (18 : Nat) "[J").before a0 Z = true := hw _ (List.mem_of_getElem? (i := 22) rfl)
theorem od_prog_25_method_1_22 : decode prog_25_method_1_code 22 = .ok (.putfield 23, 3) := by decide +kernel
theorem ow_24 {Z : State} {a0 : Array Value} (hw : ∀ d ∈ tables_1, d.before a0 Z = true) : (Jvm.Cond.fieldLink "com/example/binlease/binlease/model/Server" (23 : Nat) "com/example/binlease/binlease/model/Server" "capacity" "[J").before a0 Z = true := hw _ (List.mem_of_getElem? (i := 24) rfl)
theorem ow_25 {Z : State} {a0 : Array Value} (hw : ∀ d ∈ tables_1, d.before a0 Z = true) : (Jvm.Cond.laysFinal "com/example/binlease/binlease/model/Server" "com/example/binlease/binlease/model/Server" "capacity" "[J").before a0 Z = true := hw _ (List.mem_of_getElem? (i := 25) rfl)
theorem osn_1 {Z : State} {a0 : Array Value} (hw : ∀ d ∈ tables_1, d.before a0 Z = true) : RoadKit.slotOf Z "com/example/binlease/binlease/model/Server" "capacity" "[J" ≠ RoadKit.slotOf Z "com/example/binlease/binlease/model/Server" "open" "Z" := slot_ne (C := "com/example/binlease/binlease/model/Server") (Or.inr (ow_25 hw)) (Or.inl (ow_12 hw)) (by decide) (t := (.array .long)) (t' := .boolean) (by decide) (by decide)
theorem osn_2 {Z : State} {a0 : Array Value} (hw : ∀ d ∈ tables_1, d.before a0 Z = true) : RoadKit.slotOf Z "com/example/binlease/binlease/model/Server" "capacity" "[J" ≠ RoadKit.slotOf Z "com/example/binlease/binlease/model/Server" "number" "I" := slot_ne (C := "com/example/binlease/binlease/model/Server") (Or.inr (ow_25 hw)) (Or.inr (ow_14 hw)) (by decide) (t := (.array .long)) (t' := .int) (by decide) (by decide)
theorem od_prog_25_method_1_25 : decode prog_25_method_1_code 25 = .ok (.aload_n 0, 1) := by decide +kernel
theorem od_prog_25_method_1_26 : decode prog_25_method_1_code 26 = .ok (.aload_n 2, 1) := by decide +kernel
theorem od_prog_25_method_1_27 : decode prog_25_method_1_code 27 = .ok (.arraylength, 1) := by decide +kernel
theorem od_prog_25_method_1_28 : decode prog_25_method_1_code 28 = .ok (.newarray .long, 2) := by decide +kernel
theorem ow_1 {Z : State} {a0 : Array Value} (hw : ∀ d ∈ tables_1, d.before a0 Z = true) : (Jvm.Cond.arrayClass Jvm.ClassFile.FieldType.long).before a0 Z = true := hw _ (List.mem_of_getElem? (i := 1) rfl)
theorem od_prog_25_method_1_30 : decode prog_25_method_1_code 30 = .ok (.putfield 26, 3) := by decide +kernel
theorem ow_26 {Z : State} {a0 : Array Value} (hw : ∀ d ∈ tables_1, d.before a0 Z = true) : (Jvm.Cond.fieldLink "com/example/binlease/binlease/model/Server" (26 : Nat) "com/example/binlease/binlease/model/Server" "load" "[J").before a0 Z = true := hw _ (List.mem_of_getElem? (i := 26) rfl)
theorem ow_27 {Z : State} {a0 : Array Value} (hw : ∀ d ∈ tables_1, d.before a0 Z = true) : (Jvm.Cond.laysFinal "com/example/binlease/binlease/model/Server" "com/example/binlease/binlease/model/Server" "load" "[J").before a0 Z = true := hw _ (List.mem_of_getElem? (i := 27) rfl)
theorem osn_3 {Z : State} {a0 : Array Value} (hw : ∀ d ∈ tables_1, d.before a0 Z = true) : RoadKit.slotOf Z "com/example/binlease/binlease/model/Server" "load" "[J" ≠ RoadKit.slotOf Z "com/example/binlease/binlease/model/Server" "open" "Z" := slot_ne (C := "com/example/binlease/binlease/model/Server") (Or.inr (ow_27 hw)) (Or.inl (ow_12 hw)) (by decide) (t := (.array .long)) (t' := .boolean) (by decide) (by decide)
theorem osn_4 {Z : State} {a0 : Array Value} (hw : ∀ d ∈ tables_1, d.before a0 Z = true) : RoadKit.slotOf Z "com/example/binlease/binlease/model/Server" "load" "[J" ≠ RoadKit.slotOf Z "com/example/binlease/binlease/model/Server" "number" "I" := slot_ne (C := "com/example/binlease/binlease/model/Server") (Or.inr (ow_27 hw)) (Or.inr (ow_14 hw)) (by decide) (t := (.array .long)) (t' := .int) (by decide) (by decide)
theorem osn_5 {Z : State} {a0 : Array Value} (hw : ∀ d ∈ tables_1, d.before a0 Z = true) : RoadKit.slotOf Z "com/example/binlease/binlease/model/Server" "load" "[J" ≠ RoadKit.slotOf Z "com/example/binlease/binlease/model/Server" "capacity" "[J" := slot_ne (C := "com/example/binlease/binlease/model/Server") (Or.inr (ow_27 hw)) (Or.inr (ow_25 hw)) (by decide) (t := (.array .long)) (t' := (.array .long)) (by decide) (by decide)
theorem od_prog_25_method_1_33 : decode prog_25_method_1_code 33 = .ok (.aload_n 0, 1) := by decide +kernel
theorem od_prog_25_method_1_34 : decode prog_25_method_1_code 34 = .ok (.lload_n 3, 1) := by decide +kernel
theorem od_prog_25_method_1_35 : decode prog_25_method_1_code 35 = .ok (.putfield 29, 3) := by decide +kernel
theorem ow_28 {Z : State} {a0 : Array Value} (hw : ∀ d ∈ tables_1, d.before a0 Z = true) : (Jvm.Cond.fieldLink "com/example/binlease/binlease/model/Server" (29 : Nat) "com/example/binlease/binlease/model/Server" "openedAt" "J").before a0 Z = true := hw _ (List.mem_of_getElem? (i := 28) rfl)
theorem ow_29 {Z : State} {a0 : Array Value} (hw : ∀ d ∈ tables_1, d.before a0 Z = true) : (Jvm.Cond.laysFinal "com/example/binlease/binlease/model/Server" "com/example/binlease/binlease/model/Server" "openedAt" "J").before a0 Z = true := hw _ (List.mem_of_getElem? (i := 29) rfl)
theorem osn_6 {Z : State} {a0 : Array Value} (hw : ∀ d ∈ tables_1, d.before a0 Z = true) : RoadKit.slotOf Z "com/example/binlease/binlease/model/Server" "openedAt" "J" ≠ RoadKit.slotOf Z "com/example/binlease/binlease/model/Server" "open" "Z" := slot_ne (C := "com/example/binlease/binlease/model/Server") (Or.inr (ow_29 hw)) (Or.inl (ow_12 hw)) (by decide) (t := .long) (t' := .boolean) (by decide) (by decide)
theorem osn_7 {Z : State} {a0 : Array Value} (hw : ∀ d ∈ tables_1, d.before a0 Z = true) : RoadKit.slotOf Z "com/example/binlease/binlease/model/Server" "openedAt" "J" ≠ RoadKit.slotOf Z "com/example/binlease/binlease/model/Server" "number" "I" := slot_ne (C := "com/example/binlease/binlease/model/Server") (Or.inr (ow_29 hw)) (Or.inr (ow_14 hw)) (by decide) (t := .long) (t' := .int) (by decide) (by decide)
theorem osn_8 {Z : State} {a0 : Array Value} (hw : ∀ d ∈ tables_1, d.before a0 Z = true) : RoadKit.slotOf Z "com/example/binlease/binlease/model/Server" "openedAt" "J" ≠ RoadKit.slotOf Z "com/example/binlease/binlease/model/Server" "capacity" "[J" := slot_ne (C := "com/example/binlease/binlease/model/Server") (Or.inr (ow_29 hw)) (Or.inr (ow_25 hw)) (by decide) (t := .long) (t' := (.array .long)) (by decide) (by decide)
theorem osn_9 {Z : State} {a0 : Array Value} (hw : ∀ d ∈ tables_1, d.before a0 Z = true) : RoadKit.slotOf Z "com/example/binlease/binlease/model/Server" "openedAt" "J" ≠ RoadKit.slotOf Z "com/example/binlease/binlease/model/Server" "load" "[J" := slot_ne (C := "com/example/binlease/binlease/model/Server") (Or.inr (ow_29 hw)) (Or.inr (ow_27 hw)) (by decide) (t := .long) (t' := (.array .long)) (by decide) (by decide)
theorem od_prog_25_method_1_38 : decode prog_25_method_1_code 38 = .ok (.return_, 1) := by decide +kernel
theorem osn_10 {Z : State} {a0 : Array Value} (hw : ∀ d ∈ tables_1, d.before a0 Z = true) : RoadKit.slotOf Z "com/example/binlease/binlease/model/Server" "open" "Z" ≠ RoadKit.slotOf Z "com/example/binlease/binlease/model/Server" "number" "I" := slot_ne (C := "com/example/binlease/binlease/model/Server") (Or.inl (ow_12 hw)) (Or.inr (ow_14 hw)) (by decide) (t := .boolean) (t' := .int) (by decide) (by decide)
theorem osn_11 {Z : State} {a0 : Array Value} (hw : ∀ d ∈ tables_1, d.before a0 Z = true) : RoadKit.slotOf Z "com/example/binlease/binlease/model/Server" "open" "Z" ≠ RoadKit.slotOf Z "com/example/binlease/binlease/model/Server" "capacity" "[J" := slot_ne (C := "com/example/binlease/binlease/model/Server") (Or.inl (ow_12 hw)) (Or.inr (ow_25 hw)) (by decide) (t := .boolean) (t' := (.array .long)) (by decide) (by decide)
theorem osn_12 {Z : State} {a0 : Array Value} (hw : ∀ d ∈ tables_1, d.before a0 Z = true) : RoadKit.slotOf Z "com/example/binlease/binlease/model/Server" "open" "Z" ≠ RoadKit.slotOf Z "com/example/binlease/binlease/model/Server" "load" "[J" := slot_ne (C := "com/example/binlease/binlease/model/Server") (Or.inl (ow_12 hw)) (Or.inr (ow_27 hw)) (by decide) (t := .boolean) (t' := (.array .long)) (by decide) (by decide)
theorem osn_13 {Z : State} {a0 : Array Value} (hw : ∀ d ∈ tables_1, d.before a0 Z = true) : RoadKit.slotOf Z "com/example/binlease/binlease/model/Server" "open" "Z" ≠ RoadKit.slotOf Z "com/example/binlease/binlease/model/Server" "openedAt" "J" := slot_ne (C := "com/example/binlease/binlease/model/Server") (Or.inl (ow_12 hw)) (Or.inr (ow_29 hw)) (by decide) (t := .boolean) (t' := .long) (by decide) (by decide)
theorem osn_14 {Z : State} {a0 : Array Value} (hw : ∀ d ∈ tables_1, d.before a0 Z = true) : RoadKit.slotOf Z "com/example/binlease/binlease/model/Server" "number" "I" ≠ RoadKit.slotOf Z "com/example/binlease/binlease/model/Server" "capacity" "[J" := slot_ne (C := "com/example/binlease/binlease/model/Server") (Or.inr (ow_14 hw)) (Or.inr (ow_25 hw)) (by decide) (t := .int) (t' := (.array .long)) (by decide) (by decide)
theorem osn_15 {Z : State} {a0 : Array Value} (hw : ∀ d ∈ tables_1, d.before a0 Z = true) : RoadKit.slotOf Z "com/example/binlease/binlease/model/Server" "number" "I" ≠ RoadKit.slotOf Z "com/example/binlease/binlease/model/Server" "load" "[J" := slot_ne (C := "com/example/binlease/binlease/model/Server") (Or.inr (ow_14 hw)) (Or.inr (ow_27 hw)) (by decide) (t := .int) (t' := (.array .long)) (by decide) (by decide)
theorem osn_16 {Z : State} {a0 : Array Value} (hw : ∀ d ∈ tables_1, d.before a0 Z = true) : RoadKit.slotOf Z "com/example/binlease/binlease/model/Server" "number" "I" ≠ RoadKit.slotOf Z "com/example/binlease/binlease/model/Server" "openedAt" "J" := slot_ne (C := "com/example/binlease/binlease/model/Server") (Or.inr (ow_14 hw)) (Or.inr (ow_29 hw)) (by decide) (t := .int) (t' := .long) (by decide) (by decide)
theorem osn_17 {Z : State} {a0 : Array Value} (hw : ∀ d ∈ tables_1, d.before a0 Z = true) : RoadKit.slotOf Z "com/example/binlease/binlease/model/Server" "capacity" "[J" ≠ RoadKit.slotOf Z "com/example/binlease/binlease/model/Server" "load" "[J" := slot_ne (C := "com/example/binlease/binlease/model/Server") (Or.inr (ow_25 hw)) (Or.inr (ow_27 hw)) (by decide) (t := (.array .long)) (t' := (.array .long)) (by decide) (by decide)
theorem osn_18 {Z : State} {a0 : Array Value} (hw : ∀ d ∈ tables_1, d.before a0 Z = true) : RoadKit.slotOf Z "com/example/binlease/binlease/model/Server" "capacity" "[J" ≠ RoadKit.slotOf Z "com/example/binlease/binlease/model/Server" "openedAt" "J" := slot_ne (C := "com/example/binlease/binlease/model/Server") (Or.inr (ow_25 hw)) (Or.inr (ow_29 hw)) (by decide) (t := (.array .long)) (t' := .long) (by decide) (by decide)
theorem osn_19 {Z : State} {a0 : Array Value} (hw : ∀ d ∈ tables_1, d.before a0 Z = true) : RoadKit.slotOf Z "com/example/binlease/binlease/model/Server" "load" "[J" ≠ RoadKit.slotOf Z "com/example/binlease/binlease/model/Server" "openedAt" "J" := slot_ne (C := "com/example/binlease/binlease/model/Server") (Or.inr (ow_27 hw)) (Or.inr (ow_29 hw)) (by decide) (t := (.array .long)) (t' := .long) (by decide) (by decide)
theorem ow_76 {Z : State} {a0 : Array Value} (hw : ∀ d ∈ tables_1, d.before a0 Z = true) : (Jvm.Cond.lays "com/example/binlease/binlease/model/Server" "com/example/binlease/binlease/model/Server" "jobs" "I").before a0 Z = true := hw _ (List.mem_of_getElem? (i := 76) rfl)
theorem osn_20 {Z : State} {a0 : Array Value} (hw : ∀ d ∈ tables_1, d.before a0 Z = true) : RoadKit.slotOf Z "com/example/binlease/binlease/model/Server" "jobs" "I" ≠ RoadKit.slotOf Z "com/example/binlease/binlease/model/Server" "open" "Z" := slot_ne (C := "com/example/binlease/binlease/model/Server") (Or.inl (ow_76 hw)) (Or.inl (ow_12 hw)) (by decide) (t := .int) (t' := .boolean) (by decide) (by decide)
theorem osn_21 {Z : State} {a0 : Array Value} (hw : ∀ d ∈ tables_1, d.before a0 Z = true) : RoadKit.slotOf Z "com/example/binlease/binlease/model/Server" "jobs" "I" ≠ RoadKit.slotOf Z "com/example/binlease/binlease/model/Server" "number" "I" := slot_ne (C := "com/example/binlease/binlease/model/Server") (Or.inl (ow_76 hw)) (Or.inr (ow_14 hw)) (by decide) (t := .int) (t' := .int) (by decide) (by decide)
theorem osn_22 {Z : State} {a0 : Array Value} (hw : ∀ d ∈ tables_1, d.before a0 Z = true) : RoadKit.slotOf Z "com/example/binlease/binlease/model/Server" "jobs" "I" ≠ RoadKit.slotOf Z "com/example/binlease/binlease/model/Server" "capacity" "[J" := slot_ne (C := "com/example/binlease/binlease/model/Server") (Or.inl (ow_76 hw)) (Or.inr (ow_25 hw)) (by decide) (t := .int) (t' := (.array .long)) (by decide) (by decide)
theorem osn_23 {Z : State} {a0 : Array Value} (hw : ∀ d ∈ tables_1, d.before a0 Z = true) : RoadKit.slotOf Z "com/example/binlease/binlease/model/Server" "jobs" "I" ≠ RoadKit.slotOf Z "com/example/binlease/binlease/model/Server" "load" "[J" := slot_ne (C := "com/example/binlease/binlease/model/Server") (Or.inl (ow_76 hw)) (Or.inr (ow_27 hw)) (by decide) (t := .int) (t' := (.array .long)) (by decide) (by decide)
theorem osn_24 {Z : State} {a0 : Array Value} (hw : ∀ d ∈ tables_1, d.before a0 Z = true) : RoadKit.slotOf Z "com/example/binlease/binlease/model/Server" "jobs" "I" ≠ RoadKit.slotOf Z "com/example/binlease/binlease/model/Server" "openedAt" "J" := slot_ne (C := "com/example/binlease/binlease/model/Server") (Or.inl (ow_76 hw)) (Or.inr (ow_29 hw)) (by decide) (t := .int) (t' := .long) (by decide) (by decide)
theorem opn_com_example_binlease_binlease_model_Server : plainName "com/example/binlease/binlease/model/Server" = true := by first | (simp [plainName, overriddenIn]; done) | decide +kernel
theorem oef_rm_srv (m : MethodId) (ra : Addr) (u0 : Int32) (rb : Addr) (u1 : Int64) : entryFrame m #[(.ref ra), (.int u0), (.ref rb), (.long u1)] 5 = mkF m 0 #[.val (.ref ra), .val (.int u0), .val (.ref rb), .val (.long u1), .second] [] := by first | (simp [entryFrame, mkF, argsToLocals, Value.category]; done) | rfl
set_option maxRecDepth 65536 in
set_option maxHeartbeats 40000000 in
theorem rm_srv (l : Launch) (Z : State) (a0 : Array Value) (hw : ∀ d ∈ tables_1, d.before a0 Z = true) (ra : Addr) (rb : Addr) (u0 : Int32) (u1 : Int64) (x0 : Int64) (x1 : Int64) (w0 : Value) (w1 : Value) (w2 : Value) (w3 : Value) (w4 : Value) (u9 : Int32) (h0 : Heap) (n0 : Nat) (Z0 : n0 ≤ h0.size) (P0 : Exa Z h0 ra "com/example/binlease/binlease/model/Server") (P1 : Exa Z h0 rb "[J") (P2 : own_AJ Z h0 rb .long (2 : Int32) (own_LJ [x0, x1])) (P3 : Fld Z h0 ra "com/example/binlease/binlease/model/Server" "open" "Z" (w0)) (P4 : Fld Z h0 ra "com/example/binlease/binlease/model/Server" "number" "I" (w1)) (P5 : Fld Z h0 ra "com/example/binlease/binlease/model/Server" "capacity" "[J" (w2)) (P6 : Fld Z h0 ra "com/example/binlease/binlease/model/Server" "load" "[J" (w3)) (P7 : Fld Z h0 ra "com/example/binlease/binlease/model/Server" "openedAt" "J" (w4)) (P8 : Fld Z h0 ra "com/example/binlease/binlease/model/Server" "jobs" "I" (.int u9)) (g_ra : n0 ≤ ra) (ne_ra_rb : ra ≠ rb) :
    own_M l Z (⟨"com/example/binlease/binlease/model/Server", "<init>", "(I[JJ)V"⟩ : MethodName) prog_25_method_1_code 5 none [] ({ frames := 1, cells := 2, slots := 4, locals := 15 } : Room) #[(.ref ra), (.int u0), (.ref rb), (.long u1)] h0 (fun v h L => ∃ rc rd : Addr, v = none ∧ Fr n0 L ∧ (Keep h0 h [ra]) ∧ (h0.size ≤ rc) ∧ (h0.size ≤ rd) ∧ (Fld Z h ra "com/example/binlease/binlease/model/Server" "open" "Z" (.int (1 : Int32))) ∧ (Fld Z h ra "com/example/binlease/binlease/model/Server" "number" "I" (.int u0)) ∧ (Fld Z h ra "com/example/binlease/binlease/model/Server" "capacity" "[J" (.ref rc)) ∧ (Fld Z h ra "com/example/binlease/binlease/model/Server" "load" "[J" (.ref rd)) ∧ (Fld Z h ra "com/example/binlease/binlease/model/Server" "openedAt" "J" (.long u1)) ∧ (Fld Z h ra "com/example/binlease/binlease/model/Server" "jobs" "I" (.int u9)) ∧ (Exa Z h rc "[J") ∧ (own_AJ Z h rc .long (2 : Int32) (own_LJ [x0, x1])) ∧ (Exa Z h rd "[J") ∧ (own_AJ Z h rd .long (2 : Int32) (own_LJ [(0 : Int64), (0 : Int64)])) ∧ (rc < rd)) 2 4 := by
  refine own_body (plainFor_of_name opn_com_example_binlease_binlease_model_Server) ?_
  intro p e s m below meth c s1 hx hby hml hown hnm hret hlk hZ X0 e0
  rw [oef_rm_srv m ra u0 rb u1]
  have N0 := Fr.nil n0
  refine own_aloadN X0 hx (hb hby od_prog_25_method_1_0) rfl rfl (pc' := 1) rfl ?_
  refine own_initO X0 hx hZ hown (ow_8 hw) (ow_9 hw) (ow_10 hw) e0 (by rw [hml]; rfl) (hb hby od_prog_25_method_1_1) (by decide) (W := 0) (Nat.le_of_eq rfl) (by decide) (pc' := 4) rfl ?_
  intro T1 X1 e1
  refine own_aloadN X1 hx (hb hby od_prog_25_method_1_4) rfl rfl (pc' := 5) rfl ?_
  refine own_iconst X1 hx (hb hby od_prog_25_method_1_5) (z := (1 : Int32)) rfl (pc' := 6) rfl ?_
  refine own_putF X1 hx hZ hown (ow_11 hw) e1 P3 P0 (Or.inl (ow_12 hw)) (ow_3 hw) (ty := .boolean) (by decide) rfl rfl (hb hby od_prog_25_method_1_6) (pc' := 9) rfl ?_
  intro T2 h2 X2 e2 W2
  have N2 := Fr.snoc X2 N0 g_ra
  refine own_aloadN X2 hx (hb hby od_prog_25_method_1_9) rfl rfl (pc' := 10) rfl ?_
  refine own_iloadN X2 hx (hb hby od_prog_25_method_1_10) rfl (pc' := 11) rfl ?_
  have f3 : Fld Z h2 ra "com/example/binlease/binlease/model/Server" "number" "I" (w1) := (P4.other W2 (Or.inr (osn_0 hw)))
  have f4 : Exa Z h2 ra "com/example/binlease/binlease/model/Server" := (P0.wr W2)
  refine own_putF X2 hx hZ hown (ow_13 hw) e2 f3 f4 (Or.inr ⟨(ow_14 hw), rfl, hnm⟩) (ow_3 hw) (ty := .int) (by decide) rfl rfl (hb hby od_prog_25_method_1_11) (pc' := 14) rfl ?_
  intro T5 h5 X5 e5 W5
  have N5 := Fr.snoc X5 N2 g_ra
  refine own_aloadN X5 hx (hb hby od_prog_25_method_1_14) rfl rfl (pc' := 15) rfl ?_
  refine own_aloadN X5 hx (hb hby od_prog_25_method_1_15) rfl rfl (pc' := 16) rfl ?_
  have z7 : n0 ≤ h5.size := (Nat.le_trans (Nat.le_trans Z0 (Nat.le_of_eq (Wr.size W2).symm)) (Nat.le_of_eq (Wr.size W5).symm))
  have f8 : Exa Z h5 ra "com/example/binlease/binlease/model/Server" := (f4.wr W5)
  have f9 : Exa Z h5 rb "[J" := ((P1.wr W2).wr W5)
  have f10 : own_AJ Z h5 rb .long (2 : Int32) (own_LJ [x0, x1]) := ((P2.other W2 (Ne.symm ne_ra_rb)).other W5 (Ne.symm ne_ra_rb))
  refine own_clone X5 hx hZ hown (ow_15 hw) (ow_16 hw) (ow_20 hw) (ow_18 hw) (ow_19 hw) (ow_21 hw) e5 f10 f9 (by rw [hml]; rfl) (hb hby od_prog_25_method_1_16) (by decide) (W := 1) (cap := 2) (Nat.le_of_eq rfl) (by decide) (by decide) (by decide) (by decide) (pc' := 19) rfl ?_
  intro T6 h6 a6 g6 X6 e6 E6 A6 Bx6
  have lt_ra_a6 : ra < a6 := by rw [g6]; exact f8.lt
  have lt_rb_a6 : rb < a6 := by rw [g6]; exact f9.lt
  have ge_a6 : n0 ≤ a6 := by rw [g6]; exact z7
  have gn_a6 : h0.size ≤ a6 := by rw [g6]; exact (Nat.le_trans (Nat.le_trans (Nat.le_refl _) (Nat.le_of_eq (Wr.size W2).symm)) (Nat.le_of_eq (Wr.size W5).symm))
  refine own_checkcast X6 hx hZ hown (ow_22 hw) e6 Bx6 (hb hby od_prog_25_method_1_19) (pc' := 22) rfl ?_
  intro T11 X11 e11
  have f12 : Fld Z h6 ra "com/example/binlease/binlease/model/Server" "capacity" "[J" (w2) := (((P5.other W2 (Or.inr (osn_1 hw))).other W5 (Or.inr (osn_2 hw))).ext E6)
  have f13 : Exa Z h6 ra "com/example/binlease/binlease/model/Server" := (f8.ext E6)
  refine own_putF X11 hx hZ hown (ow_24 hw) e11 f12 f13 (Or.inr ⟨(ow_25 hw), rfl, hnm⟩) (ow_3 hw) (ty := (.array .long)) (by decide) rfl rfl (hb hby od_prog_25_method_1_22) (pc' := 25) rfl ?_
  intro T14 h14 X14 e14 W14
  have N14 := Fr.snoc X14 N5 g_ra
  refine own_aloadN X14 hx (hb hby od_prog_25_method_1_25) rfl rfl (pc' := 26) rfl ?_
  refine own_aloadN X14 hx (hb hby od_prog_25_method_1_26) rfl rfl (pc' := 27) rfl ?_
  have f15 : own_AJ Z h14 rb .long (2 : Int32) (own_LJ [x0, x1]) := ((f10.ext E6).other W14 (Ne.symm ne_ra_rb))
  refine own_lenJ X14 hx hZ e14 f15 (hb hby od_prog_25_method_1_27) (pc' := 28) rfl ?_
  have z17 : n0 ≤ h14.size := (Nat.le_trans (Nat.le_trans z7 E6.1) (Nat.le_of_eq (Wr.size W14).symm))
  have f18 : Exa Z h14 a6 "[J" := (Bx6.wr W14)
  have f19 : Exa Z h14 ra "com/example/binlease/binlease/model/Server" := (f13.wr W14)
  have f20 : Exa Z h14 rb "[J" := ((f9.ext E6).wr W14)
  refine own_newE X14 hx hZ (ow_1 hw) e14 (hb hby od_prog_25_method_1_28) (pc' := 30) rfl (by decide) (cap := 2) (by decide) (by decide) (by decide) (by decide) ?_
  intro T16 h16 a16 g16 X16 e16 E16 A16 Bx16
  have lt_a6_a16 : a6 < a16 := by rw [g16]; exact f18.lt
  have lt_ra_a16 : ra < a16 := by rw [g16]; exact f19.lt
  have lt_rb_a16 : rb < a16 := by rw [g16]; exact f20.lt
  have ge_a16 : n0 ≤ a16 := by rw [g16]; exact z17
  have gn_a16 : h0.size ≤ a16 := by rw [g16]; exact (Nat.le_trans (Nat.le_trans (Nat.le_trans (Nat.le_trans (Nat.le_refl _) (Nat.le_of_eq (Wr.size W2).symm)) (Nat.le_of_eq (Wr.size W5).symm)) E6.1) (Nat.le_of_eq (Wr.size W14).symm))
  have B16 : own_AJ Z h16 a16 .long (2 : Int32) (own_LJ [(0 : Int64), (0 : Int64)]) := A16.same (by decide)
  have f21 : Fld Z h16 ra "com/example/binlease/binlease/model/Server" "load" "[J" (w3) := (((((P6.other W2 (Or.inr (osn_3 hw))).other W5 (Or.inr (osn_4 hw))).ext E6).other W14 (Or.inr (osn_5 hw))).ext E16)
  have f22 : Exa Z h16 ra "com/example/binlease/binlease/model/Server" := (f19.ext E16)
  refine own_putF X16 hx hZ hown (ow_26 hw) e16 f21 f22 (Or.inr ⟨(ow_27 hw), rfl, hnm⟩) (ow_3 hw) (ty := (.array .long)) (by decide) rfl rfl (hb hby od_prog_25_method_1_30) (pc' := 33) rfl ?_
  intro T23 h23 X23 e23 W23
  have N23 := Fr.snoc X23 N14 g_ra
  refine own_aloadN X23 hx (hb hby od_prog_25_method_1_33) rfl rfl (pc' := 34) rfl ?_
  refine own_lloadN X23 hx (hb hby od_prog_25_method_1_34) rfl (pc' := 35) rfl ?_
  have f24 : Fld Z h23 ra "com/example/binlease/binlease/model/Server" "openedAt" "J" (w4) := ((((((P7.other W2 (Or.inr (osn_6 hw))).other W5 (Or.inr (osn_7 hw))).ext E6).other W14 (Or.inr (osn_8 hw))).ext E16).other W23 (Or.inr (osn_9 hw)))
  have f25 : Exa Z h23 ra "com/example/binlease/binlease/model/Server" := (f22.wr W23)
  refine own_putF X23 hx hZ hown (ow_28 hw) e23 f24 f25 (Or.inr ⟨(ow_29 hw), rfl, hnm⟩) (ow_3 hw) (ty := .long) (by decide) rfl rfl (hb hby od_prog_25_method_1_35) (pc' := 38) rfl ?_
  intro T26 h26 X26 e26 W26
  have N26 := Fr.snoc X26 N23 g_ra
  have k34 : Keep h0 h26 [ra] := (Keep.wr (Keep.wr (Keep.ext (Keep.wr (Keep.ext (Keep.wr (Keep.wr (Keep.refl _ _) W2 (Or.inl (List.mem_of_getElem? (i := 0) rfl))) W5 (Or.inl (List.mem_of_getElem? (i := 0) rfl))) E6) W14 (Or.inl (List.mem_of_getElem? (i := 0) rfl))) E16) W23 (Or.inl (List.mem_of_getElem? (i := 0) rfl))) W26 (Or.inl (List.mem_of_getElem? (i := 0) rfl)))
  have f35 : Fld Z h26 ra "com/example/binlease/binlease/model/Server" "open" "Z" (.int (1 : Int32)) := (((((((P3.same W2).other W5 (Or.inr (osn_10 hw))).ext E6).other W14 (Or.inr (osn_11 hw))).ext E16).other W23 (Or.inr (osn_12 hw))).other W26 (Or.inr (osn_13 hw)))
  have f36 : Fld Z h26 ra "com/example/binlease/binlease/model/Server" "number" "I" (.int u0) := ((((((f3.same W5).ext E6).other W14 (Or.inr (osn_14 hw))).ext E16).other W23 (Or.inr (osn_15 hw))).other W26 (Or.inr (osn_16 hw)))
  have f37 : Fld Z h26 ra "com/example/binlease/binlease/model/Server" "capacity" "[J" (.ref a6) := ((((f12.same W14).ext E16).other W23 (Or.inr (osn_17 hw))).other W26 (Or.inr (osn_18 hw)))
  have f38 : Fld Z h26 ra "com/example/binlease/binlease/model/Server" "load" "[J" (.ref a16) := ((f21.same W23).other W26 (Or.inr (osn_19 hw)))
  have f39 : Fld Z h26 ra "com/example/binlease/binlease/model/Server" "jobs" "I" (.int u9) := (((((((P8.other W2 (Or.inr (osn_20 hw))).other W5 (Or.inr (osn_21 hw))).ext E6).other W14 (Or.inr (osn_22 hw))).ext E16).other W23 (Or.inr (osn_23 hw))).other W26 (Or.inr (osn_24 hw)))
  have f40 : Exa Z h26 a6 "[J" := (((f18.ext E16).wr W23).wr W26)
  have f41 : own_AJ Z h26 a6 .long (2 : Int32) (own_LJ [x0, x1]) := ((((A6.other W14 (Nat.ne_of_gt lt_ra_a6)).ext E16).other W23 (Nat.ne_of_gt lt_ra_a6)).other W26 (Nat.ne_of_gt lt_ra_a6))
  have f42 : Exa Z h26 a16 "[J" := ((Bx16.wr W23).wr W26)
  have f43 : own_AJ Z h26 a16 .long (2 : Int32) (own_LJ [(0 : Int64), (0 : Int64)]) := ((B16.other W23 (Nat.ne_of_gt lt_ra_a16)).other W26 (Nat.ne_of_gt lt_ra_a16))
  exact own_retV X26 hx hret hlk (hb hby od_prog_25_method_1_38) ⟨a6, a16, rfl, N26, (by rw [e26]; exact k34), gn_a6, gn_a16, (by rw [e26]; exact f35), (by rw [e26]; exact f36), (by rw [e26]; exact f37), (by rw [e26]; exact f38), (by rw [e26]; exact (f24.same W26)), (by rw [e26]; exact f39), (by rw [e26]; exact f40), (by rw [e26]; exact f41), (by rw [e26]; exact f42), (by rw [e26]; exact f43), lt_a6_a16⟩ (by decide) (by decide)
theorem od_prog_25_method_9_0 : decode prog_25_method_9_code 0 = .ok (.aload_n 0, 1) := by decide +kernel
theorem od_prog_25_method_9_1 : decode prog_25_method_9_code 1 = .ok (.getfield 23, 3) := by decide +kernel
theorem od_prog_25_method_9_4 : decode prog_25_method_9_code 4 = .ok (.iload_n 1, 1) := by decide +kernel
theorem od_prog_25_method_9_5 : decode prog_25_method_9_code 5 = .ok (.laload, 1) := by decide +kernel
theorem od_prog_25_method_9_6 : decode prog_25_method_9_code 6 = .ok (.aload_n 0, 1) := by decide +kernel
theorem od_prog_25_method_9_7 : decode prog_25_method_9_code 7 = .ok (.getfield 26, 3) := by decide +kernel
theorem od_prog_25_method_9_10 : decode prog_25_method_9_code 10 = .ok (.iload_n 1, 1) := by decide +kernel
theorem od_prog_25_method_9_11 : decode prog_25_method_9_code 11 = .ok (.laload, 1) := by decide +kernel
theorem od_prog_25_method_9_12 : decode prog_25_method_9_code 12 = .ok (.lsub, 1) := by decide +kernel
theorem od_prog_25_method_9_13 : decode prog_25_method_9_code 13 = .ok (.lreturn, 1) := by decide +kernel
theorem oef_rm_room0 (m : MethodId) (ra : Addr) : entryFrame m #[(.ref ra), (.int (0 : Int32))] 2 = mkF m 0 #[.val (.ref ra), .val (.int (0 : Int32))] [] := by first | (simp [entryFrame, mkF, argsToLocals, Value.category]; done) | rfl
set_option maxRecDepth 65536 in
set_option maxHeartbeats 40000000 in
theorem rm_room0 (l : Launch) (Z : State) (a0 : Array Value) (hw : ∀ d ∈ tables_1, d.before a0 Z = true) (ra : Addr) (rc : Addr) (rd : Addr) (x0 : Int64) (x1 : Int64) (y0 : Int64) (y1 : Int64) (h0 : Heap) (n0 : Nat) (Z0 : n0 ≤ h0.size) (P0 : Fld Z h0 ra "com/example/binlease/binlease/model/Server" "capacity" "[J" (.ref rc)) (P1 : Fld Z h0 ra "com/example/binlease/binlease/model/Server" "load" "[J" (.ref rd)) (P2 : own_AJ Z h0 rc .long (2 : Int32) (own_LJ [x0, x1])) (P3 : own_AJ Z h0 rd .long (2 : Int32) (own_LJ [y0, y1])) :
    own_M l Z (⟨"com/example/binlease/binlease/model/Server", "room", "(I)J"⟩ : MethodName) prog_25_method_9_code 2 (some .long) [] ({ frames := 0, cells := 0, slots := 0, locals := 0 } : Room) #[(.ref ra), (.int (0 : Int32))] h0 (fun v h L => v = some (.long (x0 - y0)) ∧ Fr n0 L ∧ (h = h0)) 0 0 := by
  refine own_body (plainFor_of_name opn_com_example_binlease_binlease_model_Server) ?_
  intro p e s m below meth c s1 hx hby hml hown hnm hret hlk hZ X0 e0
  rw [oef_rm_room0 m ra]
  have N0 := Fr.nil n0
  refine own_aloadN X0 hx (hb hby od_prog_25_method_9_0) rfl rfl (pc' := 1) rfl ?_
  refine own_getF X0 hx hZ hown (ow_24 hw) e0 P0 (hb hby od_prog_25_method_9_1) (pc' := 4) rfl ?_
  intro T1 X1 e1
  refine own_iloadN X1 hx (hb hby od_prog_25_method_9_4) rfl (pc' := 5) rfl ?_
  refine own_laload X1 hx hZ e1 P2 (x := x0) (by decide) rfl (hb hby od_prog_25_method_9_5) (pc' := 6) rfl ?_
  refine own_aloadN X1 hx (hb hby od_prog_25_method_9_6) rfl rfl (pc' := 7) rfl ?_
  refine own_getF X1 hx hZ hown (ow_26 hw) e1 P1 (hb hby od_prog_25_method_9_7) (pc' := 10) rfl ?_
  intro T2 X2 e2
  refine own_iloadN X2 hx (hb hby od_prog_25_method_9_10) rfl (pc' := 11) rfl ?_
  refine own_laload X2 hx hZ e2 P3 (x := y0) (by decide) rfl (hb hby od_prog_25_method_9_11) (pc' := 12) rfl ?_
  refine own_lsub X2 hx (hb hby od_prog_25_method_9_12) (pc' := 13) rfl ?_
  exact own_retL X2 hx hret hlk (hb hby od_prog_25_method_9_13) ⟨rfl, N0, e2⟩ (by decide) (by decide)
theorem oef_rm_room1 (m : MethodId) (ra : Addr) : entryFrame m #[(.ref ra), (.int (1 : Int32))] 2 = mkF m 0 #[.val (.ref ra), .val (.int (1 : Int32))] [] := by first | (simp [entryFrame, mkF, argsToLocals, Value.category]; done) | rfl
set_option maxRecDepth 65536 in
set_option maxHeartbeats 40000000 in
theorem rm_room1 (l : Launch) (Z : State) (a0 : Array Value) (hw : ∀ d ∈ tables_1, d.before a0 Z = true) (ra : Addr) (rc : Addr) (rd : Addr) (x0 : Int64) (x1 : Int64) (y0 : Int64) (y1 : Int64) (h0 : Heap) (n0 : Nat) (Z0 : n0 ≤ h0.size) (P0 : Fld Z h0 ra "com/example/binlease/binlease/model/Server" "capacity" "[J" (.ref rc)) (P1 : Fld Z h0 ra "com/example/binlease/binlease/model/Server" "load" "[J" (.ref rd)) (P2 : own_AJ Z h0 rc .long (2 : Int32) (own_LJ [x0, x1])) (P3 : own_AJ Z h0 rd .long (2 : Int32) (own_LJ [y0, y1])) :
    own_M l Z (⟨"com/example/binlease/binlease/model/Server", "room", "(I)J"⟩ : MethodName) prog_25_method_9_code 2 (some .long) [] ({ frames := 0, cells := 0, slots := 0, locals := 0 } : Room) #[(.ref ra), (.int (1 : Int32))] h0 (fun v h L => v = some (.long (x1 - y1)) ∧ Fr n0 L ∧ (h = h0)) 0 0 := by
  refine own_body (plainFor_of_name opn_com_example_binlease_binlease_model_Server) ?_
  intro p e s m below meth c s1 hx hby hml hown hnm hret hlk hZ X0 e0
  rw [oef_rm_room1 m ra]
  have N0 := Fr.nil n0
  refine own_aloadN X0 hx (hb hby od_prog_25_method_9_0) rfl rfl (pc' := 1) rfl ?_
  refine own_getF X0 hx hZ hown (ow_24 hw) e0 P0 (hb hby od_prog_25_method_9_1) (pc' := 4) rfl ?_
  intro T1 X1 e1
  refine own_iloadN X1 hx (hb hby od_prog_25_method_9_4) rfl (pc' := 5) rfl ?_
  refine own_laload X1 hx hZ e1 P2 (x := x1) (by decide) rfl (hb hby od_prog_25_method_9_5) (pc' := 6) rfl ?_
  refine own_aloadN X1 hx (hb hby od_prog_25_method_9_6) rfl rfl (pc' := 7) rfl ?_
  refine own_getF X1 hx hZ hown (ow_26 hw) e1 P1 (hb hby od_prog_25_method_9_7) (pc' := 10) rfl ?_
  intro T2 X2 e2
  refine own_iloadN X2 hx (hb hby od_prog_25_method_9_10) rfl (pc' := 11) rfl ?_
  refine own_laload X2 hx hZ e2 P3 (x := y1) (by decide) rfl (hb hby od_prog_25_method_9_11) (pc' := 12) rfl ?_
  refine own_lsub X2 hx (hb hby od_prog_25_method_9_12) (pc' := 13) rfl ?_
  exact own_retL X2 hx hret hlk (hb hby od_prog_25_method_9_13) ⟨rfl, N0, e2⟩ (by decide) (by decide)
theorem od_prog_25_method_8_0 : decode prog_25_method_8_code 0 = .ok (.aload_n 0, 1) := by decide +kernel
theorem od_prog_25_method_8_1 : decode prog_25_method_8_code 1 = .ok (.getfield 26, 3) := by decide +kernel
theorem od_prog_25_method_8_4 : decode prog_25_method_8_code 4 = .ok (.iload_n 1, 1) := by decide +kernel
theorem od_prog_25_method_8_5 : decode prog_25_method_8_code 5 = .ok (.laload, 1) := by decide +kernel
theorem od_prog_25_method_8_6 : decode prog_25_method_8_code 6 = .ok (.lreturn, 1) := by decide +kernel
theorem oef_rm_load0 (m : MethodId) (ra : Addr) : entryFrame m #[(.ref ra), (.int (0 : Int32))] 2 = mkF m 0 #[.val (.ref ra), .val (.int (0 : Int32))] [] := by first | (simp [entryFrame, mkF, argsToLocals, Value.category]; done) | rfl
set_option maxRecDepth 65536 in
set_option maxHeartbeats 40000000 in
theorem rm_load0 (l : Launch) (Z : State) (a0 : Array Value) (hw : ∀ d ∈ tables_1, d.before a0 Z = true) (ra : Addr) (rd : Addr) (y0 : Int64) (y1 : Int64) (h0 : Heap) (n0 : Nat) (Z0 : n0 ≤ h0.size) (P0 : Fld Z h0 ra "com/example/binlease/binlease/model/Server" "load" "[J" (.ref rd)) (P1 : own_AJ Z h0 rd .long (2 : Int32) (own_LJ [y0, y1])) :
    own_M l Z (⟨"com/example/binlease/binlease/model/Server", "load", "(I)J"⟩ : MethodName) prog_25_method_8_code 2 (some .long) [] ({ frames := 0, cells := 0, slots := 0, locals := 0 } : Room) #[(.ref ra), (.int (0 : Int32))] h0 (fun v h L => v = some (.long y0) ∧ Fr n0 L ∧ (h = h0)) 0 0 := by
  refine own_body (plainFor_of_name opn_com_example_binlease_binlease_model_Server) ?_
  intro p e s m below meth c s1 hx hby hml hown hnm hret hlk hZ X0 e0
  rw [oef_rm_load0 m ra]
  have N0 := Fr.nil n0
  refine own_aloadN X0 hx (hb hby od_prog_25_method_8_0) rfl rfl (pc' := 1) rfl ?_
  refine own_getF X0 hx hZ hown (ow_26 hw) e0 P0 (hb hby od_prog_25_method_8_1) (pc' := 4) rfl ?_
  intro T1 X1 e1
  refine own_iloadN X1 hx (hb hby od_prog_25_method_8_4) rfl (pc' := 5) rfl ?_
  refine own_laload X1 hx hZ e1 P1 (x := y0) (by decide) rfl (hb hby od_prog_25_method_8_5) (pc' := 6) rfl ?_
  exact own_retL X1 hx hret hlk (hb hby od_prog_25_method_8_6) ⟨rfl, N0, e1⟩ (by decide) (by decide)
theorem oef_rm_load1 (m : MethodId) (ra : Addr) : entryFrame m #[(.ref ra), (.int (1 : Int32))] 2 = mkF m 0 #[.val (.ref ra), .val (.int (1 : Int32))] [] := by first | (simp [entryFrame, mkF, argsToLocals, Value.category]; done) | rfl
set_option maxRecDepth 65536 in
set_option maxHeartbeats 40000000 in
theorem rm_load1 (l : Launch) (Z : State) (a0 : Array Value) (hw : ∀ d ∈ tables_1, d.before a0 Z = true) (ra : Addr) (rd : Addr) (y0 : Int64) (y1 : Int64) (h0 : Heap) (n0 : Nat) (Z0 : n0 ≤ h0.size) (P0 : Fld Z h0 ra "com/example/binlease/binlease/model/Server" "load" "[J" (.ref rd)) (P1 : own_AJ Z h0 rd .long (2 : Int32) (own_LJ [y0, y1])) :
    own_M l Z (⟨"com/example/binlease/binlease/model/Server", "load", "(I)J"⟩ : MethodName) prog_25_method_8_code 2 (some .long) [] ({ frames := 0, cells := 0, slots := 0, locals := 0 } : Room) #[(.ref ra), (.int (1 : Int32))] h0 (fun v h L => v = some (.long y1) ∧ Fr n0 L ∧ (h = h0)) 0 0 := by
  refine own_body (plainFor_of_name opn_com_example_binlease_binlease_model_Server) ?_
  intro p e s m below meth c s1 hx hby hml hown hnm hret hlk hZ X0 e0
  rw [oef_rm_load1 m ra]
  have N0 := Fr.nil n0
  refine own_aloadN X0 hx (hb hby od_prog_25_method_8_0) rfl rfl (pc' := 1) rfl ?_
  refine own_getF X0 hx hZ hown (ow_26 hw) e0 P0 (hb hby od_prog_25_method_8_1) (pc' := 4) rfl ?_
  intro T1 X1 e1
  refine own_iloadN X1 hx (hb hby od_prog_25_method_8_4) rfl (pc' := 5) rfl ?_
  refine own_laload X1 hx hZ e1 P1 (x := y1) (by decide) rfl (hb hby od_prog_25_method_8_5) (pc' := 6) rfl ?_
  exact own_retL X1 hx hret hlk (hb hby od_prog_25_method_8_6) ⟨rfl, N0, e1⟩ (by decide) (by decide)
theorem od_prog_24_method_3_0 : decode prog_24_method_3_code 0 = .ok (.aload_n 0, 1) := by decide +kernel
theorem od_prog_24_method_3_1 : decode prog_24_method_3_code 1 = .ok (.invokespecial 20, 3) := by decide +kernel
theorem ow_52 {Z : State} {a0 : Array Value} (hw : ∀ d ∈ tables_1, d.before a0 Z = true) : (Jvm.Cond.methodLink "com/example/binlease/binlease/model/Job" (20 : Nat) ({ cls := "java/lang/Object", name := "<init>", desc := "()V" } : Jvm.MethodName)).before a0 Z = true := hw _ (List.mem_of_getElem? (i := 52) rfl)
theorem od_prog_24_method_3_4 : decode prog_24_method_3_code 4 = .ok (.aload 7, 2) := by decide +kernel
theorem od_prog_24_method_3_6 : decode prog_24_method_3_code 6 = .ok (.arraylength, 1) := by decide +kernel
theorem od_prog_24_method_3_7 : decode prog_24_method_3_code 7 = .ok (.ifCond .ne 17, 3) := by decide +kernel
theorem od_prog_24_method_3_24 : decode prog_24_method_3_code 24 = .ok (.aload 7, 2) := by decide +kernel
theorem od_prog_24_method_3_26 : decode prog_24_method_3_code 26 = .ok (.astore 8, 2) := by decide +kernel
theorem od_prog_24_method_3_28 : decode prog_24_method_3_code 28 = .ok (.aload 8, 2) := by decide +kernel
theorem od_prog_24_method_3_30 : decode prog_24_method_3_code 30 = .ok (.arraylength, 1) := by decide +kernel
theorem od_prog_24_method_3_31 : decode prog_24_method_3_code 31 = .ok (.istore 9, 2) := by decide +kernel
theorem od_prog_24_method_3_33 : decode prog_24_method_3_code 33 = .ok (.iconst 0, 1) := by decide +kernel
theorem od_prog_24_method_3_34 : decode prog_24_method_3_code 34 = .ok (.istore 10, 2) := by decide +kernel
theorem od_prog_24_method_3_36 : decode prog_24_method_3_code 36 = .ok (.iload 10, 2) := by decide +kernel
theorem od_prog_24_method_3_38 : decode prog_24_method_3_code 38 = .ok (.iload 9, 2) := by decide +kernel
theorem od_prog_24_method_3_40 : decode prog_24_method_3_code 40 = .ok (.if_icmp .ge 37, 3) := by decide +kernel
theorem od_prog_24_method_3_43 : decode prog_24_method_3_code 43 = .ok (.aload 8, 2) := by decide +kernel
theorem od_prog_24_method_3_45 : decode prog_24_method_3_code 45 = .ok (.iload 10, 2) := by decide +kernel
theorem od_prog_24_method_3_47 : decode prog_24_method_3_code 47 = .ok (.laload, 1) := by decide +kernel
theorem od_prog_24_method_3_48 : decode prog_24_method_3_code 48 = .ok (.lstore 11, 2) := by decide +kernel
theorem od_prog_24_method_3_50 : decode prog_24_method_3_code 50 = .ok (.lload 11, 2) := by decide +kernel
theorem od_prog_24_method_3_52 : decode prog_24_method_3_code 52 = .ok (.lconst 0, 1) := by decide +kernel
theorem od_prog_24_method_3_53 : decode prog_24_method_3_code 53 = .ok (.lcmp, 1) := by decide +kernel
theorem od_prog_24_method_3_54 : decode prog_24_method_3_code 54 = .ok (.ifCond .ge 17, 3) := by decide +kernel
theorem od_prog_24_method_3_71 : decode prog_24_method_3_code 71 = .ok (.iinc 10 1, 3) := by decide +kernel
theorem od_prog_24_method_3_74 : decode prog_24_method_3_code 74 = .ok (.goto (-38), 3) := by decide +kernel
theorem od_prog_24_method_3_77 : decode prog_24_method_3_code 77 = .ok (.aload_n 0, 1) := by decide +kernel
theorem od_prog_24_method_3_78 : decode prog_24_method_3_code 78 = .ok (.aload_n 1, 1) := by decide +kernel
theorem od_prog_24_method_3_79 : decode prog_24_method_3_code 79 = .ok (.putfield 27, 3) := by decide +kernel
theorem ow_53 {Z : State} {a0 : Array Value} (hw : ∀ d ∈ tables_1, d.before a0 Z = true) : (Jvm.Cond.fieldLink "com/example/binlease/binlease/model/Job" (27 : Nat) "com/example/binlease/binlease/model/Job" "id" "Ljava/lang/String;").before a0 Z = true := hw _ (List.mem_of_getElem? (i := 53) rfl)
theorem ow_54 {Z : State} {a0 : Array Value} (hw : ∀ d ∈ tables_1, d.before a0 Z = true) : (Jvm.Cond.laysFinal "com/example/binlease/binlease/model/Job" "com/example/binlease/binlease/model/Job" "id" "Ljava/lang/String;").before a0 Z = true := hw _ (List.mem_of_getElem? (i := 54) rfl)
theorem ow_36 {Z : State} {a0 : Array Value} (hw : ∀ d ∈ tables_1, d.before a0 Z = true) : (Jvm.Cond.instantiable "com/example/binlease/binlease/model/Job" (5 : Nat)).before a0 Z = true := hw _ (List.mem_of_getElem? (i := 36) rfl)
theorem od_prog_24_method_3_82 : decode prog_24_method_3_code 82 = .ok (.aload_n 0, 1) := by decide +kernel
theorem od_prog_24_method_3_83 : decode prog_24_method_3_code 83 = .ok (.lload_n 2, 1) := by decide +kernel
theorem od_prog_24_method_3_84 : decode prog_24_method_3_code 84 = .ok (.putfield 31, 3) := by decide +kernel
theorem ow_55 {Z : State} {a0 : Array Value} (hw : ∀ d ∈ tables_1, d.before a0 Z = true) : (Jvm.Cond.fieldLink "com/example/binlease/binlease/model/Job" (31 : Nat) "com/example/binlease/binlease/model/Job" "arrival" "J").before a0 Z = true := hw _ (List.mem_of_getElem? (i := 55) rfl)
theorem ow_56 {Z : State} {a0 : Array Value} (hw : ∀ d ∈ tables_1, d.before a0 Z = true) : (Jvm.Cond.laysFinal "com/example/binlease/binlease/model/Job" "com/example/binlease/binlease/model/Job" "arrival" "J").before a0 Z = true := hw _ (List.mem_of_getElem? (i := 56) rfl)
theorem osn_25 {Z : State} {a0 : Array Value} (hw : ∀ d ∈ tables_1, d.before a0 Z = true) : RoadKit.slotOf Z "com/example/binlease/binlease/model/Job" "arrival" "J" ≠ RoadKit.slotOf Z "com/example/binlease/binlease/model/Job" "id" "Ljava/lang/String;" := slot_ne (C := "com/example/binlease/binlease/model/Job") (Or.inr (ow_56 hw)) (Or.inr (ow_54 hw)) (by decide) (t := .long) (t' := (.object "java/lang/String")) (by decide) (by decide)
theorem od_prog_24_method_3_87 : decode prog_24_method_3_code 87 = .ok (.aload_n 0, 1) := by decide +kernel
theorem od_prog_24_method_3_88 : decode prog_24_method_3_code 88 = .ok (.lload 4, 2) := by decide +kernel
theorem od_prog_24_method_3_90 : decode prog_24_method_3_code 90 = .ok (.putfield 35, 3) := by decide +kernel
theorem ow_57 {Z : State} {a0 : Array Value} (hw : ∀ d ∈ tables_1, d.before a0 Z = true) : (Jvm.Cond.fieldLink "com/example/binlease/binlease/model/Job" (35 : Nat) "com/example/binlease/binlease/model/Job" "departure" "J").before a0 Z = true := hw _ (List.mem_of_getElem? (i := 57) rfl)
theorem ow_58 {Z : State} {a0 : Array Value} (hw : ∀ d ∈ tables_1, d.before a0 Z = true) : (Jvm.Cond.laysFinal "com/example/binlease/binlease/model/Job" "com/example/binlease/binlease/model/Job" "departure" "J").before a0 Z = true := hw _ (List.mem_of_getElem? (i := 58) rfl)
theorem osn_26 {Z : State} {a0 : Array Value} (hw : ∀ d ∈ tables_1, d.before a0 Z = true) : RoadKit.slotOf Z "com/example/binlease/binlease/model/Job" "departure" "J" ≠ RoadKit.slotOf Z "com/example/binlease/binlease/model/Job" "id" "Ljava/lang/String;" := slot_ne (C := "com/example/binlease/binlease/model/Job") (Or.inr (ow_58 hw)) (Or.inr (ow_54 hw)) (by decide) (t := .long) (t' := (.object "java/lang/String")) (by decide) (by decide)
theorem osn_27 {Z : State} {a0 : Array Value} (hw : ∀ d ∈ tables_1, d.before a0 Z = true) : RoadKit.slotOf Z "com/example/binlease/binlease/model/Job" "departure" "J" ≠ RoadKit.slotOf Z "com/example/binlease/binlease/model/Job" "arrival" "J" := slot_ne (C := "com/example/binlease/binlease/model/Job") (Or.inr (ow_58 hw)) (Or.inr (ow_56 hw)) (by decide) (t := .long) (t' := .long) (by decide) (by decide)
theorem od_prog_24_method_3_93 : decode prog_24_method_3_code 93 = .ok (.aload_n 0, 1) := by decide +kernel
theorem od_prog_24_method_3_94 : decode prog_24_method_3_code 94 = .ok (.iload 6, 2) := by decide +kernel
theorem od_prog_24_method_3_96 : decode prog_24_method_3_code 96 = .ok (.putfield 38, 3) := by decide +kernel
theorem ow_59 {Z : State} {a0 : Array Value} (hw : ∀ d ∈ tables_1, d.before a0 Z = true) : (Jvm.Cond.fieldLink "com/example/binlease/binlease/model/Job" (38 : Nat) "com/example/binlease/binlease/model/Job" "departureKnown" "Z").before a0 Z = true := hw _ (List.mem_of_getElem? (i := 59) rfl)
theorem ow_60 {Z : State} {a0 : Array Value} (hw : ∀ d ∈ tables_1, d.before a0 Z = true) : (Jvm.Cond.laysFinal "com/example/binlease/binlease/model/Job" "com/example/binlease/binlease/model/Job" "departureKnown" "Z").before a0 Z = true := hw _ (List.mem_of_getElem? (i := 60) rfl)
theorem osn_28 {Z : State} {a0 : Array Value} (hw : ∀ d ∈ tables_1, d.before a0 Z = true) : RoadKit.slotOf Z "com/example/binlease/binlease/model/Job" "departureKnown" "Z" ≠ RoadKit.slotOf Z "com/example/binlease/binlease/model/Job" "id" "Ljava/lang/String;" := slot_ne (C := "com/example/binlease/binlease/model/Job") (Or.inr (ow_60 hw)) (Or.inr (ow_54 hw)) (by decide) (t := .boolean) (t' := (.object "java/lang/String")) (by decide) (by decide)
theorem osn_29 {Z : State} {a0 : Array Value} (hw : ∀ d ∈ tables_1, d.before a0 Z = true) : RoadKit.slotOf Z "com/example/binlease/binlease/model/Job" "departureKnown" "Z" ≠ RoadKit.slotOf Z "com/example/binlease/binlease/model/Job" "arrival" "J" := slot_ne (C := "com/example/binlease/binlease/model/Job") (Or.inr (ow_60 hw)) (Or.inr (ow_56 hw)) (by decide) (t := .boolean) (t' := .long) (by decide) (by decide)
theorem osn_30 {Z : State} {a0 : Array Value} (hw : ∀ d ∈ tables_1, d.before a0 Z = true) : RoadKit.slotOf Z "com/example/binlease/binlease/model/Job" "departureKnown" "Z" ≠ RoadKit.slotOf Z "com/example/binlease/binlease/model/Job" "departure" "J" := slot_ne (C := "com/example/binlease/binlease/model/Job") (Or.inr (ow_60 hw)) (Or.inr (ow_58 hw)) (by decide) (t := .boolean) (t' := .long) (by decide) (by decide)
theorem od_prog_24_method_3_99 : decode prog_24_method_3_code 99 = .ok (.aload_n 0, 1) := by decide +kernel
theorem od_prog_24_method_3_100 : decode prog_24_method_3_code 100 = .ok (.aload 7, 2) := by decide +kernel
theorem od_prog_24_method_3_102 : decode prog_24_method_3_code 102 = .ok (.invokevirtual 42, 3) := by decide +kernel
theorem ow_61 {Z : State} {a0 : Array Value} (hw : ∀ d ∈ tables_1, d.before a0 Z = true) : (Jvm.Cond.methodLink "com/example/binlease/binlease/model/Job" (42 : Nat) ({ cls := "[J", name := "clone", desc := "()Ljava/lang/Object;" } : Jvm.MethodName)).before a0 Z = true := hw _ (List.mem_of_getElem? (i := 61) rfl)
theorem od_prog_24_method_3_105 : decode prog_24_method_3_code 105 = .ok (.checkcast 43, 3) := by decide +kernel
theorem ow_62 {Z : State} {a0 : Array Value} (hw : ∀ d ∈ tables_1, d.before a0 Z = true) : (Jvm.Cond.classLink "com/example/binlease/binlease/model/Job" (43 : Nat) "[J").before a0 Z = true := hw _ (List.mem_of_getElem? (i := 62) rfl)
theorem od_prog_24_method_3_108 : decode prog_24_method_3_code 108 = .ok (.putfield 48, 3) := by decide +kernel
theorem ow_63 {Z : State} {a0 : Array Value} (hw : ∀ d ∈ tables_1, d.before a0 Z = true) : (Jvm.Cond.fieldLink "com/example/binlease/binlease/model/Job" (48 : Nat) "com/example/binlease/binlease/model/Job" "sizes" "[J").before a0 Z = true := hw _ (List.mem_of_getElem? (i := 63) rfl)
theorem ow_64 {Z : State} {a0 : Array Value} (hw : ∀ d ∈ tables_1, d.before a0 Z = true) : (Jvm.Cond.laysFinal "com/example/binlease/binlease/model/Job" "com/example/binlease/binlease/model/Job" "sizes" "[J").before a0 Z = true := hw _ (List.mem_of_getElem? (i := 64) rfl)
theorem osn_31 {Z : State} {a0 : Array Value} (hw : ∀ d ∈ tables_1, d.before a0 Z = true) : RoadKit.slotOf Z "com/example/binlease/binlease/model/Job" "sizes" "[J" ≠ RoadKit.slotOf Z "com/example/binlease/binlease/model/Job" "id" "Ljava/lang/String;" := slot_ne (C := "com/example/binlease/binlease/model/Job") (Or.inr (ow_64 hw)) (Or.inr (ow_54 hw)) (by decide) (t := (.array .long)) (t' := (.object "java/lang/String")) (by decide) (by decide)
theorem osn_32 {Z : State} {a0 : Array Value} (hw : ∀ d ∈ tables_1, d.before a0 Z = true) : RoadKit.slotOf Z "com/example/binlease/binlease/model/Job" "sizes" "[J" ≠ RoadKit.slotOf Z "com/example/binlease/binlease/model/Job" "arrival" "J" := slot_ne (C := "com/example/binlease/binlease/model/Job") (Or.inr (ow_64 hw)) (Or.inr (ow_56 hw)) (by decide) (t := (.array .long)) (t' := .long) (by decide) (by decide)
theorem osn_33 {Z : State} {a0 : Array Value} (hw : ∀ d ∈ tables_1, d.before a0 Z = true) : RoadKit.slotOf Z "com/example/binlease/binlease/model/Job" "sizes" "[J" ≠ RoadKit.slotOf Z "com/example/binlease/binlease/model/Job" "departure" "J" := slot_ne (C := "com/example/binlease/binlease/model/Job") (Or.inr (ow_64 hw)) (Or.inr (ow_58 hw)) (by decide) (t := (.array .long)) (t' := .long) (by decide) (by decide)
theorem osn_34 {Z : State} {a0 : Array Value} (hw : ∀ d ∈ tables_1, d.before a0 Z = true) : RoadKit.slotOf Z "com/example/binlease/binlease/model/Job" "sizes" "[J" ≠ RoadKit.slotOf Z "com/example/binlease/binlease/model/Job" "departureKnown" "Z" := slot_ne (C := "com/example/binlease/binlease/model/Job") (Or.inr (ow_64 hw)) (Or.inr (ow_60 hw)) (by decide) (t := (.array .long)) (t' := .boolean) (by decide) (by decide)
theorem od_prog_24_method_3_111 : decode prog_24_method_3_code 111 = .ok (.return_, 1) := by decide +kernel
theorem osn_35 {Z : State} {a0 : Array Value} (hw : ∀ d ∈ tables_1, d.before a0 Z = true) : RoadKit.slotOf Z "com/example/binlease/binlease/model/Job" "id" "Ljava/lang/String;" ≠ RoadKit.slotOf Z "com/example/binlease/binlease/model/Job" "arrival" "J" := slot_ne (C := "com/example/binlease/binlease/model/Job") (Or.inr (ow_54 hw)) (Or.inr (ow_56 hw)) (by decide) (t := (.object "java/lang/String")) (t' := .long) (by decide) (by decide)
theorem osn_36 {Z : State} {a0 : Array Value} (hw : ∀ d ∈ tables_1, d.before a0 Z = true) : RoadKit.slotOf Z "com/example/binlease/binlease/model/Job" "id" "Ljava/lang/String;" ≠ RoadKit.slotOf Z "com/example/binlease/binlease/model/Job" "departure" "J" := slot_ne (C := "com/example/binlease/binlease/model/Job") (Or.inr (ow_54 hw)) (Or.inr (ow_58 hw)) (by decide) (t := (.object "java/lang/String")) (t' := .long) (by decide) (by decide)
theorem osn_37 {Z : State} {a0 : Array Value} (hw : ∀ d ∈ tables_1, d.before a0 Z = true) : RoadKit.slotOf Z "com/example/binlease/binlease/model/Job" "id" "Ljava/lang/String;" ≠ RoadKit.slotOf Z "com/example/binlease/binlease/model/Job" "departureKnown" "Z" := slot_ne (C := "com/example/binlease/binlease/model/Job") (Or.inr (ow_54 hw)) (Or.inr (ow_60 hw)) (by decide) (t := (.object "java/lang/String")) (t' := .boolean) (by decide) (by decide)
theorem osn_38 {Z : State} {a0 : Array Value} (hw : ∀ d ∈ tables_1, d.before a0 Z = true) : RoadKit.slotOf Z "com/example/binlease/binlease/model/Job" "id" "Ljava/lang/String;" ≠ RoadKit.slotOf Z "com/example/binlease/binlease/model/Job" "sizes" "[J" := slot_ne (C := "com/example/binlease/binlease/model/Job") (Or.inr (ow_54 hw)) (Or.inr (ow_64 hw)) (by decide) (t := (.object "java/lang/String")) (t' := (.array .long)) (by decide) (by decide)
theorem osn_39 {Z : State} {a0 : Array Value} (hw : ∀ d ∈ tables_1, d.before a0 Z = true) : RoadKit.slotOf Z "com/example/binlease/binlease/model/Job" "arrival" "J" ≠ RoadKit.slotOf Z "com/example/binlease/binlease/model/Job" "departure" "J" := slot_ne (C := "com/example/binlease/binlease/model/Job") (Or.inr (ow_56 hw)) (Or.inr (ow_58 hw)) (by decide) (t := .long) (t' := .long) (by decide) (by decide)
theorem osn_40 {Z : State} {a0 : Array Value} (hw : ∀ d ∈ tables_1, d.before a0 Z = true) : RoadKit.slotOf Z "com/example/binlease/binlease/model/Job" "arrival" "J" ≠ RoadKit.slotOf Z "com/example/binlease/binlease/model/Job" "departureKnown" "Z" := slot_ne (C := "com/example/binlease/binlease/model/Job") (Or.inr (ow_56 hw)) (Or.inr (ow_60 hw)) (by decide) (t := .long) (t' := .boolean) (by decide) (by decide)
theorem osn_41 {Z : State} {a0 : Array Value} (hw : ∀ d ∈ tables_1, d.before a0 Z = true) : RoadKit.slotOf Z "com/example/binlease/binlease/model/Job" "arrival" "J" ≠ RoadKit.slotOf Z "com/example/binlease/binlease/model/Job" "sizes" "[J" := slot_ne (C := "com/example/binlease/binlease/model/Job") (Or.inr (ow_56 hw)) (Or.inr (ow_64 hw)) (by decide) (t := .long) (t' := (.array .long)) (by decide) (by decide)
theorem osn_42 {Z : State} {a0 : Array Value} (hw : ∀ d ∈ tables_1, d.before a0 Z = true) : RoadKit.slotOf Z "com/example/binlease/binlease/model/Job" "departure" "J" ≠ RoadKit.slotOf Z "com/example/binlease/binlease/model/Job" "departureKnown" "Z" := slot_ne (C := "com/example/binlease/binlease/model/Job") (Or.inr (ow_58 hw)) (Or.inr (ow_60 hw)) (by decide) (t := .long) (t' := .boolean) (by decide) (by decide)
theorem osn_43 {Z : State} {a0 : Array Value} (hw : ∀ d ∈ tables_1, d.before a0 Z = true) : RoadKit.slotOf Z "com/example/binlease/binlease/model/Job" "departure" "J" ≠ RoadKit.slotOf Z "com/example/binlease/binlease/model/Job" "sizes" "[J" := slot_ne (C := "com/example/binlease/binlease/model/Job") (Or.inr (ow_58 hw)) (Or.inr (ow_64 hw)) (by decide) (t := .long) (t' := (.array .long)) (by decide) (by decide)
theorem osn_44 {Z : State} {a0 : Array Value} (hw : ∀ d ∈ tables_1, d.before a0 Z = true) : RoadKit.slotOf Z "com/example/binlease/binlease/model/Job" "departureKnown" "Z" ≠ RoadKit.slotOf Z "com/example/binlease/binlease/model/Job" "sizes" "[J" := slot_ne (C := "com/example/binlease/binlease/model/Job") (Or.inr (ow_60 hw)) (Or.inr (ow_64 hw)) (by decide) (t := .boolean) (t' := (.array .long)) (by decide) (by decide)
theorem opn_com_example_binlease_binlease_model_Job : plainName "com/example/binlease/binlease/model/Job" = true := by first | (simp [plainName, overriddenIn]; done) | decide +kernel
theorem oef_rm_job2 (m : MethodId) (ra : Addr) (rs : Addr) (u0 : Int64) (u1 : Int64) (rb : Addr) : entryFrame m #[(.ref ra), (.ref rs), (.long u0), (.long u1), (.int (1 : Int32)), (.ref rb)] 13 = mkF m 0 #[.val (.ref ra), .val (.ref rs), .val (.long u0), .second, .val (.long u1), .second, .val (.int (1 : Int32)), .val (.ref rb), .unset, .unset, .unset, .unset, .unset] [] := by first | (simp [entryFrame, mkF, argsToLocals, Value.category]; done) | rfl
set_option maxRecDepth 65536 in
set_option maxHeartbeats 40000000 in
theorem rm_job2 (l : Launch) (Z : State) (a0 : Array Value) (hw : ∀ d ∈ tables_1, d.before a0 Z = true) (ra : Addr) (rs : Addr) (rb : Addr) (u0 : Int64) (u1 : Int64) (x0 : Int64) (x1 : Int64) (w0 : Value) (w1 : Value) (w2 : Value) (w3 : Value) (w4 : Value) (h0 : Heap) (n0 : Nat) (Z0 : n0 ≤ h0.size) (P0 : Exa Z h0 ra "com/example/binlease/binlease/model/Job") (P1 : Exa Z h0 rb "[J") (P2 : own_AJ Z h0 rb .long (2 : Int32) (own_LJ [x0, x1])) (P3 : Fld Z h0 ra "com/example/binlease/binlease/model/Job" "id" "Ljava/lang/String;" (w0)) (P4 : Fld Z h0 ra "com/example/binlease/binlease/model/Job" "arrival" "J" (w1)) (P5 : Fld Z h0 ra "com/example/binlease/binlease/model/Job" "departure" "J" (w2)) (P6 : Fld Z h0 ra "com/example/binlease/binlease/model/Job" "departureKnown" "Z" (w3)) (P7 : Fld Z h0 ra "com/example/binlease/binlease/model/Job" "sizes" "[J" (w4)) (g_ra : n0 ≤ ra) (ne_ra_rb : ra ≠ rb) (hp0 : ¬ (x0 < (0 : Int64))) (hp1 : ¬ (x1 < (0 : Int64))) :
    own_M l Z (⟨"com/example/binlease/binlease/model/Job", "<init>", "(Ljava/lang/String;JJZ[J)V"⟩ : MethodName) prog_24_method_3_code 13 none [] ({ frames := 1, cells := 1, slots := 2, locals := 15 } : Room) #[(.ref ra), (.ref rs), (.long u0), (.long u1), (.int (1 : Int32)), (.ref rb)] h0 (fun v h L => ∃ rc : Addr, v = none ∧ Fr n0 L ∧ (Keep h0 h [ra]) ∧ (h0.size ≤ rc) ∧ (Fld Z h ra "com/example/binlease/binlease/model/Job" "id" "Ljava/lang/String;" (.ref rs)) ∧ (Fld Z h ra "com/example/binlease/binlease/model/Job" "arrival" "J" (.long u0)) ∧ (Fld Z h ra "com/example/binlease/binlease/model/Job" "departure" "J" (.long u1)) ∧ (Fld Z h ra "com/example/binlease/binlease/model/Job" "departureKnown" "Z" (.int (1 : Int32))) ∧ (Fld Z h ra "com/example/binlease/binlease/model/Job" "sizes" "[J" (.ref rc)) ∧ (Exa Z h rc "[J") ∧ (own_AJ Z h rc .long (2 : Int32) (own_LJ [x0, x1]))) 1 2 := by
  refine own_body (plainFor_of_name opn_com_example_binlease_binlease_model_Job) ?_
  intro p e s m below meth c s1 hx hby hml hown hnm hret hlk hZ X0 e0
  rw [oef_rm_job2 m ra rs u0 u1 rb]
  have N0 := Fr.nil n0
  refine own_aloadN X0 hx (hb hby od_prog_24_method_3_0) rfl rfl (pc' := 1) rfl ?_
  refine own_initO X0 hx hZ hown (ow_52 hw) (ow_9 hw) (ow_10 hw) e0 (by rw [hml]; rfl) (hb hby od_prog_24_method_3_1) (by decide) (W := 0) (Nat.le_of_eq rfl) (by decide) (pc' := 4) rfl ?_
  intro T1 X1 e1
  refine own_aload X1 hx (hb hby od_prog_24_method_3_4) rfl rfl (pc' := 6) rfl ?_
  refine own_lenJ X1 hx hZ e1 P2 (hb hby od_prog_24_method_3_6) (pc' := 7) rfl ?_
  refine own_ifT X1 hx (hb hby od_prog_24_method_3_7) (by decide) (by decide) (pc' := 24) rfl ?_
  refine own_aload X1 hx (hb hby od_prog_24_method_3_24) rfl rfl (pc' := 26) rfl ?_
  refine own_astore X1 hx (hb hby od_prog_24_method_3_26) rfl (l' := #[.val (.ref ra), .val (.ref rs), .val (.long u0), .second, .val (.long u1), .second, .val (.int (1 : Int32)), .val (.ref rb), .val (.ref rb), .unset, .unset, .unset, .unset]) rfl (pc' := 28) rfl ?_
  refine own_aload X1 hx (hb hby od_prog_24_method_3_28) rfl rfl (pc' := 30) rfl ?_
  refine own_lenJ X1 hx hZ e1 P2 (hb hby od_prog_24_method_3_30) (pc' := 31) rfl ?_
  refine own_istore X1 hx (hb hby od_prog_24_method_3_31) (l' := #[.val (.ref ra), .val (.ref rs), .val (.long u0), .second, .val (.long u1), .second, .val (.int (1 : Int32)), .val (.ref rb), .val (.ref rb), .val (.int (2 : Int32)), .unset, .unset, .unset]) rfl (pc' := 33) rfl ?_
  refine own_iconst X1 hx (hb hby od_prog_24_method_3_33) (z := (0 : Int32)) rfl (pc' := 34) rfl ?_
  refine own_istore X1 hx (hb hby od_prog_24_method_3_34) (l' := #[.val (.ref ra), .val (.ref rs), .val (.long u0), .second, .val (.long u1), .second, .val (.int (1 : Int32)), .val (.ref rb), .val (.ref rb), .val (.int (2 : Int32)), .val (.int (0 : Int32)), .unset, .unset]) rfl (pc' := 36) rfl ?_
  refine own_iload X1 hx (hb hby od_prog_24_method_3_36) rfl (pc' := 38) rfl ?_
  refine own_iload X1 hx (hb hby od_prog_24_method_3_38) rfl (pc' := 40) rfl ?_
  refine own_icmpF X1 hx (hb hby od_prog_24_method_3_40) (by decide) (pc' := 43) rfl ?_
  refine own_aload X1 hx (hb hby od_prog_24_method_3_43) rfl rfl (pc' := 45) rfl ?_
  refine own_iload X1 hx (hb hby od_prog_24_method_3_45) rfl (pc' := 47) rfl ?_
  refine own_laload X1 hx hZ e1 P2 (x := x0) (by decide) rfl (hb hby od_prog_24_method_3_47) (pc' := 48) rfl ?_
  refine own_lstore X1 hx (hb hby od_prog_24_method_3_48) (l' := #[.val (.ref ra), .val (.ref rs), .val (.long u0), .second, .val (.long u1), .second, .val (.int (1 : Int32)), .val (.ref rb), .val (.ref rb), .val (.int (2 : Int32)), .val (.int (0 : Int32)), .val (.long x0), .second]) rfl (pc' := 50) rfl ?_
  refine own_lload X1 hx (hb hby od_prog_24_method_3_50) rfl (pc' := 52) rfl ?_
  refine own_lconst X1 hx (hb hby od_prog_24_method_3_52) (z := (0 : Int64)) (by decide) (pc' := 53) rfl ?_
  refine own_lcmp X1 hx (hb hby od_prog_24_method_3_53) (pc' := 54) rfl ?_
  refine own_ifT X1 hx (hb hby od_prog_24_method_3_54) (own_geL hp0).2.1 (by decide) (pc' := 71) rfl ?_
  refine own_iinc X1 hx (hb hby od_prog_24_method_3_71) rfl (z := (1 : Int32)) rfl (l' := #[.val (.ref ra), .val (.ref rs), .val (.long u0), .second, .val (.long u1), .second, .val (.int (1 : Int32)), .val (.ref rb), .val (.ref rb), .val (.int (2 : Int32)), .val (.int (1 : Int32)), .val (.long x0), .second]) rfl (pc' := 74) rfl ?_
  refine own_goto X1 hx (hb hby od_prog_24_method_3_74) (by decide) (pc' := 36) rfl ?_
  refine own_iload X1 hx (hb hby od_prog_24_method_3_36) rfl (pc' := 38) rfl ?_
  refine own_iload X1 hx (hb hby od_prog_24_method_3_38) rfl (pc' := 40) rfl ?_
  refine own_icmpF X1 hx (hb hby od_prog_24_method_3_40) (by decide) (pc' := 43) rfl ?_
  refine own_aload X1 hx (hb hby od_prog_24_method_3_43) rfl rfl (pc' := 45) rfl ?_
  refine own_iload X1 hx (hb hby od_prog_24_method_3_45) rfl (pc' := 47) rfl ?_
  refine own_laload X1 hx hZ e1 P2 (x := x1) (by decide) rfl (hb hby od_prog_24_method_3_47) (pc' := 48) rfl ?_
  refine own_lstore X1 hx (hb hby od_prog_24_method_3_48) (l' := #[.val (.ref ra), .val (.ref rs), .val (.long u0), .second, .val (.long u1), .second, .val (.int (1 : Int32)), .val (.ref rb), .val (.ref rb), .val (.int (2 : Int32)), .val (.int (1 : Int32)), .val (.long x1), .second]) rfl (pc' := 50) rfl ?_
  refine own_lload X1 hx (hb hby od_prog_24_method_3_50) rfl (pc' := 52) rfl ?_
  refine own_lconst X1 hx (hb hby od_prog_24_method_3_52) (z := (0 : Int64)) (by decide) (pc' := 53) rfl ?_
  refine own_lcmp X1 hx (hb hby od_prog_24_method_3_53) (pc' := 54) rfl ?_
  refine own_ifT X1 hx (hb hby od_prog_24_method_3_54) (own_geL hp1).2.1 (by decide) (pc' := 71) rfl ?_
  refine own_iinc X1 hx (hb hby od_prog_24_method_3_71) rfl (z := (1 : Int32)) rfl (l' := #[.val (.ref ra), .val (.ref rs), .val (.long u0), .second, .val (.long u1), .second, .val (.int (1 : Int32)), .val (.ref rb), .val (.ref rb), .val (.int (2 : Int32)), .val (.int (2 : Int32)), .val (.long x1), .second]) rfl (pc' := 74) rfl ?_
  refine own_goto X1 hx (hb hby od_prog_24_method_3_74) (by decide) (pc' := 36) rfl ?_
  refine own_iload X1 hx (hb hby od_prog_24_method_3_36) rfl (pc' := 38) rfl ?_
  refine own_iload X1 hx (hb hby od_prog_24_method_3_38) rfl (pc' := 40) rfl ?_
  refine own_icmpT X1 hx (hb hby od_prog_24_method_3_40) (by decide) (by decide) (pc' := 77) rfl ?_
  refine own_aloadN X1 hx (hb hby od_prog_24_method_3_77) rfl rfl (pc' := 78) rfl ?_
  refine own_aloadN X1 hx (hb hby od_prog_24_method_3_78) rfl rfl (pc' := 79) rfl ?_
  refine own_putF X1 hx hZ hown (ow_53 hw) e1 P3 P0 (Or.inr ⟨(ow_54 hw), rfl, hnm⟩) (ow_36 hw) (ty := (.object "java/lang/String")) (by decide) rfl rfl (hb hby od_prog_24_method_3_79) (pc' := 82) rfl ?_
  intro T2 h2 X2 e2 W2
  have N2 := Fr.snoc X2 N0 g_ra
  refine own_aloadN X2 hx (hb hby od_prog_24_method_3_82) rfl rfl (pc' := 83) rfl ?_
  refine own_lloadN X2 hx (hb hby od_prog_24_method_3_83) rfl (pc' := 84) rfl ?_
  have f3 : Fld Z h2 ra "com/example/binlease/binlease/model/Job" "arrival" "J" (w1) := (P4.other W2 (Or.inr (osn_25 hw)))
  have f4 : Exa Z h2 ra "com/example/binlease/binlease/model/Job" := (P0.wr W2)
  refine own_putF X2 hx hZ hown (ow_55 hw) e2 f3 f4 (Or.inr ⟨(ow_56 hw), rfl, hnm⟩) (ow_36 hw) (ty := .long) (by decide) rfl rfl (hb hby od_prog_24_method_3_84) (pc' := 87) rfl ?_
  intro T5 h5 X5 e5 W5
  have N5 := Fr.snoc X5 N2 g_ra
  refine own_aloadN X5 hx (hb hby od_prog_24_method_3_87) rfl rfl (pc' := 88) rfl ?_
  refine own_lload X5 hx (hb hby od_prog_24_method_3_88) rfl (pc' := 90) rfl ?_
  have f6 : Fld Z h5 ra "com/example/binlease/binlease/model/Job" "departure" "J" (w2) := ((P5.other W2 (Or.inr (osn_26 hw))).other W5 (Or.inr (osn_27 hw)))
  have f7 : Exa Z h5 ra "com/example/binlease/binlease/model/Job" := (f4.wr W5)
  refine own_putF X5 hx hZ hown (ow_57 hw) e5 f6 f7 (Or.inr ⟨(ow_58 hw), rfl, hnm⟩) (ow_36 hw) (ty := .long) (by decide) rfl rfl (hb hby od_prog_24_method_3_90) (pc' := 93) rfl ?_
  intro T8 h8 X8 e8 W8
  have N8 := Fr.snoc X8 N5 g_ra
  refine own_aloadN X8 hx (hb hby od_prog_24_method_3_93) rfl rfl (pc' := 94) rfl ?_
  refine own_iload X8 hx (hb hby od_prog_24_method_3_94) rfl (pc' := 96) rfl ?_
  have f9 : Fld Z h8 ra "com/example/binlease/binlease/model/Job" "departureKnown" "Z" (w3) := (((P6.other W2 (Or.inr (osn_28 hw))).other W5 (Or.inr (osn_29 hw))).other W8 (Or.inr (osn_30 hw)))
  have f10 : Exa Z h8 ra "com/example/binlease/binlease/model/Job" := (f7.wr W8)
  refine own_putF X8 hx hZ hown (ow_59 hw) e8 f9 f10 (Or.inr ⟨(ow_60 hw), rfl, hnm⟩) (ow_36 hw) (ty := .boolean) (by decide) rfl rfl (hb hby od_prog_24_method_3_96) (pc' := 99) rfl ?_
  intro T11 h11 X11 e11 W11
  have N11 := Fr.snoc X11 N8 g_ra
  refine own_aloadN X11 hx (hb hby od_prog_24_method_3_99) rfl rfl (pc' := 100) rfl ?_
  refine own_aload X11 hx (hb hby od_prog_24_method_3_100) rfl rfl (pc' := 102) rfl ?_
  have z13 : n0 ≤ h11.size := (Nat.le_trans (Nat.le_trans (Nat.le_trans (Nat.le_trans Z0 (Nat.le_of_eq (Wr.size W2).symm)) (Nat.le_of_eq (Wr.size W5).symm)) (Nat.le_of_eq (Wr.size W8).symm)) (Nat.le_of_eq (Wr.size W11).symm))
  have f14 : Exa Z h11 ra "com/example/binlease/binlease/model/Job" := (f10.wr W11)
  have f15 : Exa Z h11 rb "[J" := ((((P1.wr W2).wr W5).wr W8).wr W11)
  have f16 : own_AJ Z h11 rb .long (2 : Int32) (own_LJ [x0, x1]) := ((((P2.other W2 (Ne.symm ne_ra_rb)).other W5 (Ne.symm ne_ra_rb)).other W8 (Ne.symm ne_ra_rb)).other W11 (Ne.symm ne_ra_rb))
  refine own_clone X11 hx hZ hown (ow_61 hw) (ow_16 hw) (ow_20 hw) (ow_18 hw) (ow_19 hw) (ow_21 hw) e11 f16 f15 (by rw [hml]; rfl) (hb hby od_prog_24_method_3_102) (by decide) (W := 1) (cap := 2) (Nat.le_of_eq rfl) (by decide) (by decide) (by decide) (by decide) (pc' := 105) rfl ?_
  intro T12 h12 a12 g12 X12 e12 E12 A12 Bx12
  have lt_ra_a12 : ra < a12 := by rw [g12]; exact f14.lt
  have lt_rb_a12 : rb < a12 := by rw [g12]; exact f15.lt
  have ge_a12 : n0 ≤ a12 := by rw [g12]; exact z13
  have gn_a12 : h0.size ≤ a12 := by rw [g12]; exact (Nat.le_trans (Nat.le_trans (Nat.le_trans (Nat.le_trans (Nat.le_refl _) (Nat.le_of_eq (Wr.size W2).symm)) (Nat.le_of_eq (Wr.size W5).symm)) (Nat.le_of_eq (Wr.size W8).symm)) (Nat.le_of_eq (Wr.size W11).symm))
  refine own_checkcast X12 hx hZ hown (ow_62 hw) e12 Bx12 (hb hby od_prog_24_method_3_105) (pc' := 108) rfl ?_
  intro T17 X17 e17
  have f18 : Fld Z h12 ra "com/example/binlease/binlease/model/Job" "sizes" "[J" (w4) := (((((P7.other W2 (Or.inr (osn_31 hw))).other W5 (Or.inr (osn_32 hw))).other W8 (Or.inr (osn_33 hw))).other W11 (Or.inr (osn_34 hw))).ext E12)
  have f19 : Exa Z h12 ra "com/example/binlease/binlease/model/Job" := (f14.ext E12)
  refine own_putF X17 hx hZ hown (ow_63 hw) e17 f18 f19 (Or.inr ⟨(ow_64 hw), rfl, hnm⟩) (ow_36 hw) (ty := (.array .long)) (by decide) rfl rfl (hb hby od_prog_24_method_3_108) (pc' := 111) rfl ?_
  intro T20 h20 X20 e20 W20
  have N20 := Fr.snoc X20 N11 g_ra
  have k27 : Keep h0 h20 [ra] := (Keep.wr (Keep.ext (Keep.wr (Keep.wr (Keep.wr (Keep.wr (Keep.refl _ _) W2 (Or.inl (List.mem_of_getElem? (i := 0) rfl))) W5 (Or.inl (List.mem_of_getElem? (i := 0) rfl))) W8 (Or.inl (List.mem_of_getElem? (i := 0) rfl))) W11 (Or.inl (List.mem_of_getElem? (i := 0) rfl))) E12) W20 (Or.inl (List.mem_of_getElem? (i := 0) rfl)))
  have f28 : Fld Z h20 ra "com/example/binlease/binlease/model/Job" "id" "Ljava/lang/String;" (.ref rs) := ((((((P3.same W2).other W5 (Or.inr (osn_35 hw))).other W8 (Or.inr (osn_36 hw))).other W11 (Or.inr (osn_37 hw))).ext E12).other W20 (Or.inr (osn_38 hw)))
  have f29 : Fld Z h20 ra "com/example/binlease/binlease/model/Job" "arrival" "J" (.long u0) := (((((f3.same W5).other W8 (Or.inr (osn_39 hw))).other W11 (Or.inr (osn_40 hw))).ext E12).other W20 (Or.inr (osn_41 hw)))
  have f30 : Fld Z h20 ra "com/example/binlease/binlease/model/Job" "departure" "J" (.long u1) := ((((f6.same W8).other W11 (Or.inr (osn_42 hw))).ext E12).other W20 (Or.inr (osn_43 hw)))
  have f31 : Fld Z h20 ra "com/example/binlease/binlease/model/Job" "departureKnown" "Z" (.int (1 : Int32)) := (((f9.same W11).ext E12).other W20 (Or.inr (osn_44 hw)))
  have f32 : Exa Z h20 a12 "[J" := (Bx12.wr W20)
  have f33 : own_AJ Z h20 a12 .long (2 : Int32) (own_LJ [x0, x1]) := (A12.other W20 (Nat.ne_of_gt lt_ra_a12))
  exact own_retV X20 hx hret hlk (hb hby od_prog_24_method_3_111) ⟨a12, rfl, N20, (by rw [e20]; exact k27), gn_a12, (by rw [e20]; exact f28), (by rw [e20]; exact f29), (by rw [e20]; exact f30), (by rw [e20]; exact f31), (by rw [e20]; exact (f18.same W20)), (by rw [e20]; exact f32), (by rw [e20]; exact f33)⟩ (by decide) (by decide)
theorem od_prog_24_method_2_0 : decode prog_24_method_2_code 0 = .ok (.aload_n 0, 1) := by decide +kernel
theorem od_prog_24_method_2_1 : decode prog_24_method_2_code 1 = .ok (.aload_n 1, 1) := by decide +kernel
theorem od_prog_24_method_2_2 : decode prog_24_method_2_code 2 = .ok (.lload_n 2, 1) := by decide +kernel
theorem od_prog_24_method_2_3 : decode prog_24_method_2_code 3 = .ok (.lload 4, 2) := by decide +kernel
theorem od_prog_24_method_2_5 : decode prog_24_method_2_code 5 = .ok (.iconst 1, 1) := by decide +kernel
theorem od_prog_24_method_2_6 : decode prog_24_method_2_code 6 = .ok (.aload 6, 2) := by decide +kernel
theorem od_prog_24_method_2_8 : decode prog_24_method_2_code 8 = .ok (.invokespecial 7, 3) := by decide +kernel
theorem ow_49 {Z : State} {a0 : Array Value} (hw : ∀ d ∈ tables_1, d.before a0 Z = true) : (Jvm.Cond.methodLink "com/example/binlease/binlease/model/Job" (7 : Nat) ({ cls := "com/example/binlease/binlease/model/Job", name := "<init>", desc := "(Ljava/lang/String;JJZ[J)V" } : Jvm.MethodName)).before a0 Z = true := hw _ (List.mem_of_getElem? (i := 49) rfl)
theorem opd__Ljava_lang_String_JJZ_J_V : parseMethodDescriptor "(Ljava/lang/String;JJZ[J)V" = some ⟨[(.object "java/lang/String"), .long, .long, .boolean, (.array .long)], none⟩ := by decide +kernel
theorem ow_50 {Z : State} {a0 : Array Value} (hw : ∀ d ∈ tables_1, d.before a0 Z = true) : (Jvm.Cond.instanceMethod ({ cls := "com/example/binlease/binlease/model/Job", name := "<init>", desc := "(Ljava/lang/String;JJZ[J)V" } : Jvm.MethodName)).before a0 Z = true := hw _ (List.mem_of_getElem? (i := 50) rfl)
theorem ow_37 {Z : State} {a0 : Array Value} (hw : ∀ d ∈ tables_1, d.before a0 Z = true) : (Jvm.Cond.initialized "com/example/binlease/binlease/model/Job").before a0 Z = true := hw _ (List.mem_of_getElem? (i := 37) rfl)
theorem ow_51 {Z : State} {a0 : Array Value} (hw : ∀ d ∈ tables_1, d.before a0 Z = true) : (Jvm.Cond.code ({ cls := "com/example/binlease/binlease/model/Job", name := "<init>", desc := "(Ljava/lang/String;JJZ[J)V" } : Jvm.MethodName) prog_24_method_3_code (13 : Nat) (Option.none : Option Jvm.ClassFile.FieldType)).before a0 Z = true := hw _ (List.mem_of_getElem? (i := 51) rfl)
theorem od_prog_24_method_2_11 : decode prog_24_method_2_code 11 = .ok (.lload 4, 2) := by decide +kernel
theorem od_prog_24_method_2_13 : decode prog_24_method_2_code 13 = .ok (.lload_n 2, 1) := by decide +kernel
theorem od_prog_24_method_2_14 : decode prog_24_method_2_code 14 = .ok (.lcmp, 1) := by decide +kernel
theorem od_prog_24_method_2_15 : decode prog_24_method_2_code 15 = .ok (.ifCond .ge 17, 3) := by decide +kernel
theorem od_prog_24_method_2_32 : decode prog_24_method_2_code 32 = .ok (.return_, 1) := by decide +kernel
theorem oef_rm_job1 (m : MethodId) (ra : Addr) (rs : Addr) (u0 : Int64) (u1 : Int64) (rb : Addr) : entryFrame m #[(.ref ra), (.ref rs), (.long u0), (.long u1), (.ref rb)] 7 = mkF m 0 #[.val (.ref ra), .val (.ref rs), .val (.long u0), .second, .val (.long u1), .second, .val (.ref rb)] [] := by first | (simp [entryFrame, mkF, argsToLocals, Value.category]; done) | rfl
set_option maxRecDepth 65536 in
set_option maxHeartbeats 40000000 in
theorem rm_job1 (l : Launch) (Z : State) (a0 : Array Value) (hw : ∀ d ∈ tables_1, d.before a0 Z = true) (ra : Addr) (rs : Addr) (rb : Addr) (u0 : Int64) (u1 : Int64) (x0 : Int64) (x1 : Int64) (w0 : Value) (w1 : Value) (w2 : Value) (w3 : Value) (w4 : Value) (h0 : Heap) (n0 : Nat) (Z0 : n0 ≤ h0.size) (P0 : Exa Z h0 ra "com/example/binlease/binlease/model/Job") (P1 : Exa Z h0 rb "[J") (P2 : own_AJ Z h0 rb .long (2 : Int32) (own_LJ [x0, x1])) (P3 : Fld Z h0 ra "com/example/binlease/binlease/model/Job" "id" "Ljava/lang/String;" (w0)) (P4 : Fld Z h0 ra "com/example/binlease/binlease/model/Job" "arrival" "J" (w1)) (P5 : Fld Z h0 ra "com/example/binlease/binlease/model/Job" "departure" "J" (w2)) (P6 : Fld Z h0 ra "com/example/binlease/binlease/model/Job" "departureKnown" "Z" (w3)) (P7 : Fld Z h0 ra "com/example/binlease/binlease/model/Job" "sizes" "[J" (w4)) (g_ra : n0 ≤ ra) (ne_ra_rb : ra ≠ rb) (hp0 : ¬ (x0 < (0 : Int64))) (hp1 : ¬ (x1 < (0 : Int64))) (hq : ¬ (u1 < u0)) :
    own_M l Z (⟨"com/example/binlease/binlease/model/Job", "<init>", "(Ljava/lang/String;JJ[J)V"⟩ : MethodName) prog_24_method_2_code 7 none [] ({ frames := 2, cells := 1, slots := 2, locals := 39 } : Room) #[(.ref ra), (.ref rs), (.long u0), (.long u1), (.ref rb)] h0 (fun v h L => ∃ rc : Addr, v = none ∧ Fr n0 L ∧ (Keep h0 h [ra]) ∧ (h0.size ≤ rc) ∧ (Fld Z h ra "com/example/binlease/binlease/model/Job" "id" "Ljava/lang/String;" (.ref rs)) ∧ (Fld Z h ra "com/example/binlease/binlease/model/Job" "arrival" "J" (.long u0)) ∧ (Fld Z h ra "com/example/binlease/binlease/model/Job" "departure" "J" (.long u1)) ∧ (Fld Z h ra "com/example/binlease/binlease/model/Job" "departureKnown" "Z" (.int (1 : Int32))) ∧ (Fld Z h ra "com/example/binlease/binlease/model/Job" "sizes" "[J" (.ref rc)) ∧ (Exa Z h rc "[J") ∧ (own_AJ Z h rc .long (2 : Int32) (own_LJ [x0, x1]))) 1 2 := by
  refine own_body (plainFor_of_name opn_com_example_binlease_binlease_model_Job) ?_
  intro p e s m below meth c s1 hx hby hml hown hnm hret hlk hZ X0 e0
  rw [oef_rm_job1 m ra rs u0 u1 rb]
  have N0 := Fr.nil n0
  refine own_aloadN X0 hx (hb hby od_prog_24_method_2_0) rfl rfl (pc' := 1) rfl ?_
  refine own_aloadN X0 hx (hb hby od_prog_24_method_2_1) rfl rfl (pc' := 2) rfl ?_
  refine own_lloadN X0 hx (hb hby od_prog_24_method_2_2) rfl (pc' := 3) rfl ?_
  refine own_lload X0 hx (hb hby od_prog_24_method_2_3) rfl (pc' := 5) rfl ?_
  refine own_iconst X0 hx (hb hby od_prog_24_method_2_5) (z := (1 : Int32)) rfl (pc' := 6) rfl ?_
  refine own_aload X0 hx (hb hby od_prog_24_method_2_6) rfl rfl (pc' := 8) rfl ?_
  refine own_callC X0 hx hZ rfl hown (ow_49 hw) (ow_50 hw) (ow_37 hw) (ow_51 hw) (by decide) (rm_job2 l Z a0 hw ra rs rb u0 u1 x0 x1 w0 w1 w2 w3 w4 h0 n0 Z0 P0 P1 P2 P3 P4 P5 P6 P7 g_ra ne_ra_rb hp0 hp1) e0 (W := 0) (by decide) (by decide) opd__Ljava_lang_String_JJZ_J_V rfl (rest := []) rfl (hb hby od_prog_24_method_2_8) (Nat.le_of_eq rfl) (by rw [hml]; rfl) (by decide) (by decide) (pc' := 11) rfl ?_
  intro v1 T1 L1 X1 q1
  obtain ⟨rc_1, rfl, Nq1, K1, gz1_rc_1, p1_0, p1_1, p1_2, p1_3, p1_4, p1_5, p1_6⟩ := q1
  have lt_ra_rc_1 : ra < rc_1 := Nat.lt_of_lt_of_le P0.lt gz1_rc_1
  have lt_rb_rc_1 : rb < rc_1 := Nat.lt_of_lt_of_le P1.lt gz1_rc_1
  have ge_rc_1 : n0 ≤ rc_1 := Nat.le_trans Z0 gz1_rc_1
  have N1 := Fr.app N0 Nq1
  show own_G p e below _ (T1.setTop (mkF m 11 #[.val (.ref ra), .val (.ref rs), .val (.long u0), .second, .val (.long u1), .second, .val (.ref rb)] []))
  refine own_lload X1 hx (hb hby od_prog_24_method_2_11) rfl (pc' := 13) rfl ?_
  refine own_lloadN X1 hx (hb hby od_prog_24_method_2_13) rfl (pc' := 14) rfl ?_
  refine own_lcmp X1 hx (hb hby od_prog_24_method_2_14) (pc' := 15) rfl ?_
  refine own_ifT X1 hx (hb hby od_prog_24_method_2_15) (own_geL hq).2.1 (by decide) (pc' := 32) rfl ?_
  have k3 : Keep h0 T1.heap [ra] := (Keep.trans (Keep.refl _ _) K1 (allS (Or.inl (List.mem_of_getElem? (i := 0) rfl)) all0))
  exact own_retV X1 hx hret hlk (hb hby od_prog_24_method_2_32) ⟨rc_1, rfl, N1, k3, (Nat.le_trans (Nat.le_refl _) gz1_rc_1), p1_0, p1_1, p1_2, p1_3, p1_4, p1_5, p1_6⟩ (by decide) (by decide)
theorem od_prog_24_method_11_0 : decode prog_24_method_11_code 0 = .ok (.aload_n 0, 1) := by decide +kernel
theorem od_prog_24_method_11_1 : decode prog_24_method_11_code 1 = .ok (.getfield 48, 3) := by decide +kernel
theorem od_prog_24_method_11_4 : decode prog_24_method_11_code 4 = .ok (.iload_n 1, 1) := by decide +kernel
theorem od_prog_24_method_11_5 : decode prog_24_method_11_code 5 = .ok (.laload, 1) := by decide +kernel
theorem od_prog_24_method_11_6 : decode prog_24_method_11_code 6 = .ok (.lreturn, 1) := by decide +kernel
theorem oef_rm_size0 (m : MethodId) (ra : Addr) : entryFrame m #[(.ref ra), (.int (0 : Int32))] 2 = mkF m 0 #[.val (.ref ra), .val (.int (0 : Int32))] [] := by first | (simp [entryFrame, mkF, argsToLocals, Value.category]; done) | rfl
set_option maxRecDepth 65536 in
set_option maxHeartbeats 40000000 in
theorem rm_size0 (l : Launch) (Z : State) (a0 : Array Value) (hw : ∀ d ∈ tables_1, d.before a0 Z = true) (ra : Addr) (rc : Addr) (x0 : Int64) (x1 : Int64) (h0 : Heap) (n0 : Nat) (Z0 : n0 ≤ h0.size) (P0 : Fld Z h0 ra "com/example/binlease/binlease/model/Job" "sizes" "[J" (.ref rc)) (P1 : own_AJ Z h0 rc .long (2 : Int32) (own_LJ [x0, x1])) :
    own_M l Z (⟨"com/example/binlease/binlease/model/Job", "size", "(I)J"⟩ : MethodName) prog_24_method_11_code 2 (some .long) [] ({ frames := 0, cells := 0, slots := 0, locals := 0 } : Room) #[(.ref ra), (.int (0 : Int32))] h0 (fun v h L => v = some (.long x0) ∧ Fr n0 L ∧ (h = h0)) 0 0 := by
  refine own_body (plainFor_of_name opn_com_example_binlease_binlease_model_Job) ?_
  intro p e s m below meth c s1 hx hby hml hown hnm hret hlk hZ X0 e0
  rw [oef_rm_size0 m ra]
  have N0 := Fr.nil n0
  refine own_aloadN X0 hx (hb hby od_prog_24_method_11_0) rfl rfl (pc' := 1) rfl ?_
  refine own_getF X0 hx hZ hown (ow_63 hw) e0 P0 (hb hby od_prog_24_method_11_1) (pc' := 4) rfl ?_
  intro T1 X1 e1
  refine own_iloadN X1 hx (hb hby od_prog_24_method_11_4) rfl (pc' := 5) rfl ?_
  refine own_laload X1 hx hZ e1 P1 (x := x0) (by decide) rfl (hb hby od_prog_24_method_11_5) (pc' := 6) rfl ?_
  exact own_retL X1 hx hret hlk (hb hby od_prog_24_method_11_6) ⟨rfl, N0, e1⟩ (by decide) (by decide)
theorem oef_rm_size1 (m : MethodId) (ra : Addr) : entryFrame m #[(.ref ra), (.int (1 : Int32))] 2 = mkF m 0 #[.val (.ref ra), .val (.int (1 : Int32))] [] := by first | (simp [entryFrame, mkF, argsToLocals, Value.category]; done) | rfl
set_option maxRecDepth 65536 in
set_option maxHeartbeats 40000000 in
theorem rm_size1 (l : Launch) (Z : State) (a0 : Array Value) (hw : ∀ d ∈ tables_1, d.before a0 Z = true) (ra : Addr) (rc : Addr) (x0 : Int64) (x1 : Int64) (h0 : Heap) (n0 : Nat) (Z0 : n0 ≤ h0.size) (P0 : Fld Z h0 ra "com/example/binlease/binlease/model/Job" "sizes" "[J" (.ref rc)) (P1 : own_AJ Z h0 rc .long (2 : Int32) (own_LJ [x0, x1])) :
    own_M l Z (⟨"com/example/binlease/binlease/model/Job", "size", "(I)J"⟩ : MethodName) prog_24_method_11_code 2 (some .long) [] ({ frames := 0, cells := 0, slots := 0, locals := 0 } : Room) #[(.ref ra), (.int (1 : Int32))] h0 (fun v h L => v = some (.long x1) ∧ Fr n0 L ∧ (h = h0)) 0 0 := by
  refine own_body (plainFor_of_name opn_com_example_binlease_binlease_model_Job) ?_
  intro p e s m below meth c s1 hx hby hml hown hnm hret hlk hZ X0 e0
  rw [oef_rm_size1 m ra]
  have N0 := Fr.nil n0
  refine own_aloadN X0 hx (hb hby od_prog_24_method_11_0) rfl rfl (pc' := 1) rfl ?_
  refine own_getF X0 hx hZ hown (ow_63 hw) e0 P0 (hb hby od_prog_24_method_11_1) (pc' := 4) rfl ?_
  intro T1 X1 e1
  refine own_iloadN X1 hx (hb hby od_prog_24_method_11_4) rfl (pc' := 5) rfl ?_
  refine own_laload X1 hx hZ e1 P1 (x := x1) (by decide) rfl (hb hby od_prog_24_method_11_5) (pc' := 6) rfl ?_
  exact own_retL X1 hx hret hlk (hb hby od_prog_24_method_11_6) ⟨rfl, N0, e1⟩ (by decide) (by decide)
theorem od_prog_25_method_11_0 : decode prog_25_method_11_code 0 = .ok (.iconst 0, 1) := by decide +kernel
theorem od_prog_25_method_11_1 : decode prog_25_method_11_code 1 = .ok (.istore_n 2, 1) := by decide +kernel
theorem od_prog_25_method_11_2 : decode prog_25_method_11_code 2 = .ok (.iload_n 2, 1) := by decide +kernel
theorem od_prog_25_method_11_3 : decode prog_25_method_11_code 3 = .ok (.aload_n 0, 1) := by decide +kernel
theorem od_prog_25_method_11_4 : decode prog_25_method_11_code 4 = .ok (.getfield 26, 3) := by decide +kernel
theorem od_prog_25_method_11_7 : decode prog_25_method_11_code 7 = .ok (.arraylength, 1) := by decide +kernel
theorem od_prog_25_method_11_8 : decode prog_25_method_11_code 8 = .ok (.if_icmp .ge 23, 3) := by decide +kernel
theorem od_prog_25_method_11_11 : decode prog_25_method_11_code 11 = .ok (.aload_n 0, 1) := by decide +kernel
theorem od_prog_25_method_11_12 : decode prog_25_method_11_code 12 = .ok (.getfield 26, 3) := by decide +kernel
theorem od_prog_25_method_11_15 : decode prog_25_method_11_code 15 = .ok (.iload_n 2, 1) := by decide +kernel
theorem od_prog_25_method_11_16 : decode prog_25_method_11_code 16 = .ok (.dup2, 1) := by decide +kernel
theorem od_prog_25_method_11_17 : decode prog_25_method_11_code 17 = .ok (.laload, 1) := by decide +kernel
theorem od_prog_25_method_11_18 : decode prog_25_method_11_code 18 = .ok (.aload_n 1, 1) := by decide +kernel
theorem od_prog_25_method_11_19 : decode prog_25_method_11_code 19 = .ok (.iload_n 2, 1) := by decide +kernel
theorem od_prog_25_method_11_20 : decode prog_25_method_11_code 20 = .ok (.invokevirtual 39, 3) := by decide +kernel
theorem ow_70 {Z : State} {a0 : Array Value} (hw : ∀ d ∈ tables_1, d.before a0 Z = true) : (Jvm.Cond.methodLink "com/example/binlease/binlease/model/Server" (39 : Nat) ({ cls := "com/example/binlease/binlease/model/Job", name := "size", desc := "(I)J" } : Jvm.MethodName)).before a0 Z = true := hw _ (List.mem_of_getElem? (i := 70) rfl)
theorem ow_73 {Z : State} {a0 : Array Value} (hw : ∀ d ∈ tables_1, d.before a0 Z = true) : (Jvm.Cond.selects "com/example/binlease/binlease/model/Job" ({ cls := "com/example/binlease/binlease/model/Job", name := "size", desc := "(I)J" } : Jvm.MethodName) ({ cls := "com/example/binlease/binlease/model/Job", name := "size", desc := "(I)J" } : Jvm.MethodName)).before a0 Z = true := hw _ (List.mem_of_getElem? (i := 73) rfl)
theorem opd__I_J : parseMethodDescriptor "(I)J" = some ⟨[.int], some .long⟩ := by decide +kernel
theorem ow_71 {Z : State} {a0 : Array Value} (hw : ∀ d ∈ tables_1, d.before a0 Z = true) : (Jvm.Cond.declares ({ cls := "com/example/binlease/binlease/model/Job", name := "size", desc := "(I)J" } : Jvm.MethodName)).before a0 Z = true := hw _ (List.mem_of_getElem? (i := 71) rfl)
theorem ow_72 {Z : State} {a0 : Array Value} (hw : ∀ d ∈ tables_1, d.before a0 Z = true) : (Jvm.Cond.instanceMethod ({ cls := "com/example/binlease/binlease/model/Job", name := "size", desc := "(I)J" } : Jvm.MethodName)).before a0 Z = true := hw _ (List.mem_of_getElem? (i := 72) rfl)
theorem ow_74 {Z : State} {a0 : Array Value} (hw : ∀ d ∈ tables_1, d.before a0 Z = true) : (Jvm.Cond.code ({ cls := "com/example/binlease/binlease/model/Job", name := "size", desc := "(I)J" } : Jvm.MethodName) prog_24_method_11_code (2 : Nat) (Option.some Jvm.ClassFile.FieldType.long)).before a0 Z = true := hw _ (List.mem_of_getElem? (i := 74) rfl)
theorem od_prog_25_method_11_23 : decode prog_25_method_11_code 23 = .ok (.ladd, 1) := by decide +kernel
theorem od_prog_25_method_11_24 : decode prog_25_method_11_code 24 = .ok (.lastore, 1) := by decide +kernel
theorem od_prog_25_method_11_25 : decode prog_25_method_11_code 25 = .ok (.iinc 2 1, 3) := by decide +kernel
theorem od_prog_25_method_11_28 : decode prog_25_method_11_code 28 = .ok (.goto (-26), 3) := by decide +kernel
theorem od_prog_25_method_11_31 : decode prog_25_method_11_code 31 = .ok (.aload_n 0, 1) := by decide +kernel
theorem od_prog_25_method_11_32 : decode prog_25_method_11_code 32 = .ok (.dup, 1) := by decide +kernel
theorem od_prog_25_method_11_33 : decode prog_25_method_11_code 33 = .ok (.getfield 36, 3) := by decide +kernel
theorem ow_75 {Z : State} {a0 : Array Value} (hw : ∀ d ∈ tables_1, d.before a0 Z = true) : (Jvm.Cond.fieldLink "com/example/binlease/binlease/model/Server" (36 : Nat) "com/example/binlease/binlease/model/Server" "jobs" "I").before a0 Z = true := hw _ (List.mem_of_getElem? (i := 75) rfl)
theorem od_prog_25_method_11_36 : decode prog_25_method_11_code 36 = .ok (.iconst 1, 1) := by decide +kernel
theorem od_prog_25_method_11_37 : decode prog_25_method_11_code 37 = .ok (.iadd, 1) := by decide +kernel
theorem od_prog_25_method_11_38 : decode prog_25_method_11_code 38 = .ok (.putfield 36, 3) := by decide +kernel
theorem od_prog_25_method_11_41 : decode prog_25_method_11_code 41 = .ok (.return_, 1) := by decide +kernel
theorem osn_45 {Z : State} {a0 : Array Value} (hw : ∀ d ∈ tables_1, d.before a0 Z = true) : RoadKit.slotOf Z "com/example/binlease/binlease/model/Server" "load" "[J" ≠ RoadKit.slotOf Z "com/example/binlease/binlease/model/Server" "jobs" "I" := slot_ne (C := "com/example/binlease/binlease/model/Server") (Or.inr (ow_27 hw)) (Or.inl (ow_76 hw)) (by decide) (t := (.array .long)) (t' := .int) (by decide) (by decide)
theorem osn_46 {Z : State} {a0 : Array Value} (hw : ∀ d ∈ tables_1, d.before a0 Z = true) : RoadKit.slotOf Z "com/example/binlease/binlease/model/Server" "capacity" "[J" ≠ RoadKit.slotOf Z "com/example/binlease/binlease/model/Server" "jobs" "I" := slot_ne (C := "com/example/binlease/binlease/model/Server") (Or.inr (ow_25 hw)) (Or.inl (ow_76 hw)) (by decide) (t := (.array .long)) (t' := .int) (by decide) (by decide)
theorem oef_rm_add (m : MethodId) (ra : Addr) (rj : Addr) : entryFrame m #[(.ref ra), (.ref rj)] 3 = mkF m 0 #[.val (.ref ra), .val (.ref rj), .unset] [] := by first | (simp [entryFrame, mkF, argsToLocals, Value.category]; done) | rfl
set_option maxRecDepth 65536 in
set_option maxHeartbeats 40000000 in
theorem rm_add (l : Launch) (Z : State) (a0 : Array Value) (hw : ∀ d ∈ tables_1, d.before a0 Z = true) (ra : Addr) (rj : Addr) (rd : Addr) (rc : Addr) (re : Addr) (u9 : Int32) (y0 : Int64) (y1 : Int64) (z0 : Int64) (z1 : Int64) (h0 : Heap) (n0 : Nat) (Z0 : n0 ≤ h0.size) (P0 : Exa Z h0 ra "com/example/binlease/binlease/model/Server") (P1 : Exa Z h0 rj "com/example/binlease/binlease/model/Job") (P2 : Fld Z h0 ra "com/example/binlease/binlease/model/Server" "load" "[J" (.ref rd)) (P3 : Fld Z h0 ra "com/example/binlease/binlease/model/Server" "jobs" "I" (.int u9)) (P4 : Fld Z h0 rj "com/example/binlease/binlease/model/Job" "sizes" "[J" (.ref rc)) (P5 : own_AJ Z h0 rd .long (2 : Int32) (own_LJ [y0, y1])) (P6 : own_AJ Z h0 rc .long (2 : Int32) (own_LJ [z0, z1])) (P7 : Fld Z h0 ra "com/example/binlease/binlease/model/Server" "capacity" "[J" (.ref re)) (g_ra : n0 ≤ ra) (g_rd : n0 ≤ rd) (ne_ra_rj : ra ≠ rj) (ne_ra_rd : ra ≠ rd) (ne_ra_rc : ra ≠ rc) (ne_rj_rd : rj ≠ rd) (ne_rd_rc : rd ≠ rc) :
    own_M l Z (⟨"com/example/binlease/binlease/model/Server", "add", "(Lcom/example/binlease/binlease/model/Job;)V"⟩ : MethodName) prog_25_method_11_code 3 none [] ({ frames := 1, cells := 0, slots := 0, locals := 17 } : Room) #[(.ref ra), (.ref rj)] h0 (fun v h L => v = none ∧ Fr n0 L ∧ (Keep h0 h [ra, rd]) ∧ (Fld Z h ra "com/example/binlease/binlease/model/Server" "load" "[J" (.ref rd)) ∧ (Fld Z h ra "com/example/binlease/binlease/model/Server" "jobs" "I" (.int (u9 + (1 : Int32)))) ∧ (own_AJ Z h rd .long (2 : Int32) (own_LJ [(y0 + z0), (y1 + z1)])) ∧ (Fld Z h ra "com/example/binlease/binlease/model/Server" "capacity" "[J" (.ref re))) 0 0 := by
  refine own_body (plainFor_of_name opn_com_example_binlease_binlease_model_Server) ?_
  intro p e s m below meth c s1 hx hby hml hown hnm hret hlk hZ X0 e0
  rw [oef_rm_add m ra rj]
  have N0 := Fr.nil n0
  refine own_iconst X0 hx (hb hby od_prog_25_method_11_0) (z := (0 : Int32)) rfl (pc' := 1) rfl ?_
  refine own_istoreN X0 hx (hb hby od_prog_25_method_11_1) (l' := #[.val (.ref ra), .val (.ref rj), .val (.int (0 : Int32))]) rfl (pc' := 2) rfl ?_
  refine own_iloadN X0 hx (hb hby od_prog_25_method_11_2) rfl (pc' := 3) rfl ?_
  refine own_aloadN X0 hx (hb hby od_prog_25_method_11_3) rfl rfl (pc' := 4) rfl ?_
  refine own_getF X0 hx hZ hown (ow_26 hw) e0 P2 (hb hby od_prog_25_method_11_4) (pc' := 7) rfl ?_
  intro T1 X1 e1
  refine own_lenJ X1 hx hZ e1 P5 (hb hby od_prog_25_method_11_7) (pc' := 8) rfl ?_
  refine own_icmpF X1 hx (hb hby od_prog_25_method_11_8) (by decide) (pc' := 11) rfl ?_
  refine own_aloadN X1 hx (hb hby od_prog_25_method_11_11) rfl rfl (pc' := 12) rfl ?_
  refine own_getF X1 hx hZ hown (ow_26 hw) e1 P2 (hb hby od_prog_25_method_11_12) (pc' := 15) rfl ?_
  intro T2 X2 e2
  refine own_iloadN X2 hx (hb hby od_prog_25_method_11_15) rfl (pc' := 16) rfl ?_
  refine own_dup2 X2 hx (hb hby od_prog_25_method_11_16) rfl rfl (pc' := 17) rfl ?_
  refine own_laload X2 hx hZ e2 P5 (x := y0) (by decide) rfl (hb hby od_prog_25_method_11_17) (pc' := 18) rfl ?_
  refine own_aloadN X2 hx (hb hby od_prog_25_method_11_18) rfl rfl (pc' := 19) rfl ?_
  refine own_iloadN X2 hx (hb hby od_prog_25_method_11_19) rfl (pc' := 20) rfl ?_
  refine own_callV X2 hx hZ hown (ow_70 hw) (ow_71 hw) (ow_73 hw) (ow_72 hw) (ow_37 hw) (ow_74 hw) (by decide) P1 (rm_size0 l Z a0 hw rj rc z0 z1 h0 n0 Z0 P4 P6) e2 (W := 4) (by decide) (by decide) opd__I_J rfl (rest := [(.long y0), (.int (0 : Int32)), (.ref rd)]) rfl (hb hby od_prog_25_method_11_20) (Nat.le_of_eq rfl) (by rw [hml]; rfl) (by decide) (by decide) (pc' := 23) rfl ?_
  intro v3 T3 L3 X3 q3
  obtain ⟨rfl, Nq3, eh3⟩ := q3
  have N3 := Fr.app N0 Nq3
  show own_G p e below _ (T3.setTop (mkF m 23 #[.val (.ref ra), .val (.ref rj), .val (.int (0 : Int32))] [(.long z0), (.long y0), (.int (0 : Int32)), (.ref rd)]))
  refine own_ladd X3 hx (hb hby od_prog_25_method_11_23) (pc' := 24) rfl ?_
  refine own_lastore X3 hx hZ eh3 (g' := (own_LJ [(y0 + z0), y1])) P5 (x' := (y0 + z0)) (by decide) rfl (fun i _ => own_LJ_set [y0, y1] 0 (y0 + z0) (by simp) i) (hb hby od_prog_25_method_11_24) (pc' := 25) rfl ?_
  intro T4 h4 X4 e4 W4 A4
  have N4 := Fr.snoc X4 N3 g_rd
  refine own_iinc X4 hx (hb hby od_prog_25_method_11_25) rfl (z := (1 : Int32)) rfl (l' := #[.val (.ref ra), .val (.ref rj), .val (.int (1 : Int32))]) rfl (pc' := 28) rfl ?_
  refine own_goto X4 hx (hb hby od_prog_25_method_11_28) (by decide) (pc' := 2) rfl ?_
  refine own_iloadN X4 hx (hb hby od_prog_25_method_11_2) rfl (pc' := 3) rfl ?_
  refine own_aloadN X4 hx (hb hby od_prog_25_method_11_3) rfl rfl (pc' := 4) rfl ?_
  have f5 : Fld Z h4 ra "com/example/binlease/binlease/model/Server" "load" "[J" (.ref rd) := (P2.other W4 (Or.inl ne_ra_rd))
  refine own_getF X4 hx hZ hown (ow_26 hw) e4 f5 (hb hby od_prog_25_method_11_4) (pc' := 7) rfl ?_
  intro T6 X6 e6
  refine own_lenJ X6 hx hZ e6 A4 (hb hby od_prog_25_method_11_7) (pc' := 8) rfl ?_
  refine own_icmpF X6 hx (hb hby od_prog_25_method_11_8) (by decide) (pc' := 11) rfl ?_
  refine own_aloadN X6 hx (hb hby od_prog_25_method_11_11) rfl rfl (pc' := 12) rfl ?_
  refine own_getF X6 hx hZ hown (ow_26 hw) e6 f5 (hb hby od_prog_25_method_11_12) (pc' := 15) rfl ?_
  intro T7 X7 e7
  refine own_iloadN X7 hx (hb hby od_prog_25_method_11_15) rfl (pc' := 16) rfl ?_
  refine own_dup2 X7 hx (hb hby od_prog_25_method_11_16) rfl rfl (pc' := 17) rfl ?_
  refine own_laload X7 hx hZ e7 A4 (x := y1) (by decide) rfl (hb hby od_prog_25_method_11_17) (pc' := 18) rfl ?_
  refine own_aloadN X7 hx (hb hby od_prog_25_method_11_18) rfl rfl (pc' := 19) rfl ?_
  refine own_iloadN X7 hx (hb hby od_prog_25_method_11_19) rfl (pc' := 20) rfl ?_
  have f9 : Fld Z h4 rj "com/example/binlease/binlease/model/Job" "sizes" "[J" (.ref rc) := (P4.other W4 (Or.inl ne_rj_rd))
  have f10 : own_AJ Z h4 rc .long (2 : Int32) (own_LJ [z0, z1]) := (P6.other W4 (Ne.symm ne_rd_rc))
  have z11 : n0 ≤ h4.size := (Nat.le_trans Z0 (Nat.le_of_eq (Wr.size W4).symm))
  have f12 : Exa Z h4 rj "com/example/binlease/binlease/model/Job" := (P1.wr W4)
  refine own_callV X7 hx hZ hown (ow_70 hw) (ow_71 hw) (ow_73 hw) (ow_72 hw) (ow_37 hw) (ow_74 hw) (by decide) f12 (rm_size1 l Z a0 hw rj rc z0 z1 h4 n0 z11 f9 f10) e7 (W := 4) (by decide) (by decide) opd__I_J rfl (rest := [(.long y1), (.int (1 : Int32)), (.ref rd)]) rfl (hb hby od_prog_25_method_11_20) (Nat.le_of_eq rfl) (by rw [hml]; rfl) (by decide) (by decide) (pc' := 23) rfl ?_
  intro v8 T8 L8 X8 q8
  obtain ⟨rfl, Nq8, eh8⟩ := q8
  have N8 := Fr.app N4 Nq8
  show own_G p e below _ (T8.setTop (mkF m 23 #[.val (.ref ra), .val (.ref rj), .val (.int (1 : Int32))] [(.long z1), (.long y1), (.int (1 : Int32)), (.ref rd)]))
  refine own_ladd X8 hx (hb hby od_prog_25_method_11_23) (pc' := 24) rfl ?_
  refine own_lastore X8 hx hZ eh8 (g' := (own_LJ [(y0 + z0), (y1 + z1)])) A4 (x' := (y1 + z1)) (by decide) rfl (fun i _ => own_LJ_set [(y0 + z0), y1] 1 (y1 + z1) (by simp) i) (hb hby od_prog_25_method_11_24) (pc' := 25) rfl ?_
  intro T13 h13 X13 e13 W13 A13
  have N13 := Fr.snoc X13 N8 g_rd
  refine own_iinc X13 hx (hb hby od_prog_25_method_11_25) rfl (z := (1 : Int32)) rfl (l' := #[.val (.ref ra), .val (.ref rj), .val (.int (2 : Int32))]) rfl (pc' := 28) rfl ?_
  refine own_goto X13 hx (hb hby od_prog_25_method_11_28) (by decide) (pc' := 2) rfl ?_
  refine own_iloadN X13 hx (hb hby od_prog_25_method_11_2) rfl (pc' := 3) rfl ?_
  refine own_aloadN X13 hx (hb hby od_prog_25_method_11_3) rfl rfl (pc' := 4) rfl ?_
  have f14 : Fld Z h13 ra "com/example/binlease/binlease/model/Server" "load" "[J" (.ref rd) := (f5.other W13 (Or.inl ne_ra_rd))
  refine own_getF X13 hx hZ hown (ow_26 hw) e13 f14 (hb hby od_prog_25_method_11_4) (pc' := 7) rfl ?_
  intro T15 X15 e15
  refine own_lenJ X15 hx hZ e15 A13 (hb hby od_prog_25_method_11_7) (pc' := 8) rfl ?_
  refine own_icmpT X15 hx (hb hby od_prog_25_method_11_8) (by decide) (by decide) (pc' := 31) rfl ?_
  refine own_aloadN X15 hx (hb hby od_prog_25_method_11_31) rfl rfl (pc' := 32) rfl ?_
  refine own_dup X15 hx (hb hby od_prog_25_method_11_32) rfl (pc' := 33) rfl ?_
  have f16 : Fld Z h13 ra "com/example/binlease/binlease/model/Server" "jobs" "I" (.int u9) := ((P3.other W4 (Or.inl ne_ra_rd)).other W13 (Or.inl ne_ra_rd))
  refine own_getF X15 hx hZ hown (ow_75 hw) e15 f16 (hb hby od_prog_25_method_11_33) (pc' := 36) rfl ?_
  intro T17 X17 e17
  refine own_iconst X17 hx (hb hby od_prog_25_method_11_36) (z := (1 : Int32)) rfl (pc' := 37) rfl ?_
  refine own_iadd X17 hx (hb hby od_prog_25_method_11_37) (pc' := 38) rfl ?_
  have f18 : Exa Z h13 ra "com/example/binlease/binlease/model/Server" := ((P0.wr W4).wr W13)
  refine own_putF X17 hx hZ hown (ow_75 hw) e17 f16 f18 (Or.inl (ow_76 hw)) (ow_3 hw) (ty := .int) (by decide) rfl rfl (hb hby od_prog_25_method_11_38) (pc' := 41) rfl ?_
  intro T19 h19 X19 e19 W19
  have N19 := Fr.snoc X19 N13 g_ra
  have k23 : Keep h0 h19 [ra, rd] := (Keep.wr (Keep.wr (Keep.wr (Keep.refl _ _) W4 (Or.inl (List.mem_of_getElem? (i := 1) rfl))) W13 (Or.inl (List.mem_of_getElem? (i := 1) rfl))) W19 (Or.inl (List.mem_of_getElem? (i := 0) rfl)))
  have f24 : Fld Z h19 ra "com/example/binlease/binlease/model/Server" "load" "[J" (.ref rd) := (f14.other W19 (Or.inr (osn_45 hw)))
  have f25 : own_AJ Z h19 rd .long (2 : Int32) (own_LJ [(y0 + z0), (y1 + z1)]) := (A13.other W19 (Ne.symm ne_ra_rd))
  have f26 : Fld Z h19 ra "com/example/binlease/binlease/model/Server" "capacity" "[J" (.ref re) := (((P7.other W4 (Or.inl ne_ra_rd)).other W13 (Or.inl ne_ra_rd)).other W19 (Or.inr (osn_46 hw)))
  exact own_retV X19 hx hret hlk (hb hby od_prog_25_method_11_41) ⟨rfl, N19, (by rw [e19]; exact k23), (by rw [e19]; exact f24), (by rw [e19]; exact (f16.same W19)), (by rw [e19]; exact f25), (by rw [e19]; exact f26)⟩ (by decide) (by decide)
theorem own_nn (a : Int64) : ¬ ((a &&& (9223372036854775807 : Int64)) < (0 : Int64)) := by
  have h := c_maskL a 9223372036854775807 63 (by decide) (by decide)
  simp only [Int64.lt_iff_toInt_lt, Int64.reduceToInt]
  omega
theorem own_s0 (a : Int64) : (a - (0 : Int64)) = a := by
  have h := c_lsub a 0
  have h1 := rng64 a
  have h2 := rng64 (a - 0)
  simp only [Int64.reduceToInt] at h
  rw [← Int64.toInt_inj]; omega
theorem own_0a (a : Int64) : ((0 : Int64) + a) = a := by
  have h := c_ladd 0 a
  have h1 := rng64 a
  have h2 := rng64 (0 + a)
  simp only [Int64.reduceToInt] at h
  rw [← Int64.toInt_inj]; omega
theorem own_f1 (a b : Int64) : (a - ((0 : Int64) + b)) = (a - b) := by rw [own_0a]
theorem ow_0 {Z : State} {a0 : Array Value} (hw : ∀ d ∈ tables_1, d.before a0 Z = true) : (Jvm.Cond.constantLong "com/example/binlease/binlease/model/ServerRoomPinLaw" (9 : Nat) (9223372036854775807 : Int64)).before a0 Z = true := hw _ (List.mem_of_getElem? (i := 0) rfl)
theorem ow_2 {Z : State} {a0 : Array Value} (hw : ∀ d ∈ tables_1, d.before a0 Z = true) : (Jvm.Cond.classLink "com/example/binlease/binlease/model/ServerRoomPinLaw" (11 : Nat) "com/example/binlease/binlease/model/Server").before a0 Z = true := hw _ (List.mem_of_getElem? (i := 2) rfl)
theorem ow_4 {Z : State} {a0 : Array Value} (hw : ∀ d ∈ tables_1, d.before a0 Z = true) : (Jvm.Cond.initialized "com/example/binlease/binlease/model/Server").before a0 Z = true := hw _ (List.mem_of_getElem? (i := 4) rfl)
theorem ow_5 {Z : State} {a0 : Array Value} (hw : ∀ d ∈ tables_1, d.before a0 Z = true) : (Jvm.Cond.methodLink "com/example/binlease/binlease/model/ServerRoomPinLaw" (13 : Nat) ({ cls := "com/example/binlease/binlease/model/Server", name := "<init>", desc := "(I[JJ)V" } : Jvm.MethodName)).before a0 Z = true := hw _ (List.mem_of_getElem? (i := 5) rfl)
theorem opd__I_JJ_V : parseMethodDescriptor "(I[JJ)V" = some ⟨[.int, (.array .long), .long], none⟩ := by decide +kernel
theorem ow_6 {Z : State} {a0 : Array Value} (hw : ∀ d ∈ tables_1, d.before a0 Z = true) : (Jvm.Cond.instanceMethod ({ cls := "com/example/binlease/binlease/model/Server", name := "<init>", desc := "(I[JJ)V" } : Jvm.MethodName)).before a0 Z = true := hw _ (List.mem_of_getElem? (i := 6) rfl)
theorem ow_7 {Z : State} {a0 : Array Value} (hw : ∀ d ∈ tables_1, d.before a0 Z = true) : (Jvm.Cond.code ({ cls := "com/example/binlease/binlease/model/Server", name := "<init>", desc := "(I[JJ)V" } : Jvm.MethodName) prog_25_method_1_code (5 : Nat) (Option.none : Option Jvm.ClassFile.FieldType)).before a0 Z = true := hw _ (List.mem_of_getElem? (i := 7) rfl)
theorem ow_30 {Z : State} {a0 : Array Value} (hw : ∀ d ∈ tables_1, d.before a0 Z = true) : (Jvm.Cond.methodLink "com/example/binlease/binlease/model/ServerRoomPinLaw" (16 : Nat) ({ cls := "com/example/binlease/binlease/model/Server", name := "room", desc := "(I)J" } : Jvm.MethodName)).before a0 Z = true := hw _ (List.mem_of_getElem? (i := 30) rfl)
theorem ow_33 {Z : State} {a0 : Array Value} (hw : ∀ d ∈ tables_1, d.before a0 Z = true) : (Jvm.Cond.selects "com/example/binlease/binlease/model/Server" ({ cls := "com/example/binlease/binlease/model/Server", name := "room", desc := "(I)J" } : Jvm.MethodName) ({ cls := "com/example/binlease/binlease/model/Server", name := "room", desc := "(I)J" } : Jvm.MethodName)).before a0 Z = true := hw _ (List.mem_of_getElem? (i := 33) rfl)
theorem ow_31 {Z : State} {a0 : Array Value} (hw : ∀ d ∈ tables_1, d.before a0 Z = true) : (Jvm.Cond.declares ({ cls := "com/example/binlease/binlease/model/Server", name := "room", desc := "(I)J" } : Jvm.MethodName)).before a0 Z = true := hw _ (List.mem_of_getElem? (i := 31) rfl)
theorem ow_32 {Z : State} {a0 : Array Value} (hw : ∀ d ∈ tables_1, d.before a0 Z = true) : (Jvm.Cond.instanceMethod ({ cls := "com/example/binlease/binlease/model/Server", name := "room", desc := "(I)J" } : Jvm.MethodName)).before a0 Z = true := hw _ (List.mem_of_getElem? (i := 32) rfl)
theorem ow_34 {Z : State} {a0 : Array Value} (hw : ∀ d ∈ tables_1, d.before a0 Z = true) : (Jvm.Cond.code ({ cls := "com/example/binlease/binlease/model/Server", name := "room", desc := "(I)J" } : Jvm.MethodName) prog_25_method_9_code (2 : Nat) (Option.some Jvm.ClassFile.FieldType.long)).before a0 Z = true := hw _ (List.mem_of_getElem? (i := 34) rfl)
theorem ow_35 {Z : State} {a0 : Array Value} (hw : ∀ d ∈ tables_1, d.before a0 Z = true) : (Jvm.Cond.classLink "com/example/binlease/binlease/model/ServerRoomPinLaw" (20 : Nat) "com/example/binlease/binlease/model/Job").before a0 Z = true := hw _ (List.mem_of_getElem? (i := 35) rfl)
theorem ow_38 {Z : State} {a0 : Array Value} (hw : ∀ d ∈ tables_1, d.before a0 Z = true) : (Jvm.Cond.stringLink "com/example/binlease/binlease/model/ServerRoomPinLaw" (22 : Nat) "j").before a0 Z = true := hw _ (List.mem_of_getElem? (i := 38) rfl)
theorem ow_39 {Z : State} {a0 : Array Value} (hw : ∀ d ∈ tables_1, d.before a0 Z = true) : (Jvm.Cond.initialized "java/lang/String").before a0 Z = true := hw _ (List.mem_of_getElem? (i := 39) rfl)
theorem ow_40 {Z : State} {a0 : Array Value} (hw : ∀ d ∈ tables_1, d.before a0 Z = true) : (Jvm.Cond.instantiable "java/lang/String" (4 : Nat)).before a0 Z = true := hw _ (List.mem_of_getElem? (i := 40) rfl)
theorem ow_41 {Z : State} {a0 : Array Value} (hw : ∀ d ∈ tables_1, d.before a0 Z = true) : (Jvm.Cond.arrayClass Jvm.ClassFile.FieldType.byte).before a0 Z = true := hw _ (List.mem_of_getElem? (i := 41) rfl)
theorem ow_42 {Z : State} {a0 : Array Value} (hw : ∀ d ∈ tables_1, d.before a0 Z = true) : (Jvm.Cond.laysFinal "java/lang/String" "java/lang/String" "value" "[B").before a0 Z = true := hw _ (List.mem_of_getElem? (i := 42) rfl)
theorem ow_43 {Z : State} {a0 : Array Value} (hw : ∀ d ∈ tables_1, d.before a0 Z = true) : (Jvm.Cond.laysFinal "java/lang/String" "java/lang/String" "coder" "B").before a0 Z = true := hw _ (List.mem_of_getElem? (i := 43) rfl)
theorem ow_44 {Z : State} {a0 : Array Value} (hw : ∀ d ∈ tables_1, d.before a0 Z = true) : (Jvm.Cond.soleField "java/lang/String" "value").before a0 Z = true := hw _ (List.mem_of_getElem? (i := 44) rfl)
theorem ow_45 {Z : State} {a0 : Array Value} (hw : ∀ d ∈ tables_1, d.before a0 Z = true) : (Jvm.Cond.soleField "java/lang/String" "coder").before a0 Z = true := hw _ (List.mem_of_getElem? (i := 45) rfl)
theorem own_wS {Z : State} {a0 : Array Value} (hw : ∀ d ∈ tables_1, d.before a0 Z = true) : ∀ a ∈ Bundle.stringAtoms, a.before a0 Z = true := by
  intro d hd
  simp only [Bundle.stringAtoms, List.mem_cons, List.not_mem_nil, or_false] at hd
  rcases hd with rfl | rfl | rfl | rfl | rfl | rfl | rfl
  · exact (ow_39 hw)
  · exact (ow_40 hw)
  · exact (ow_41 hw)
  · exact (ow_42 hw)
  · exact (ow_43 hw)
  · exact (ow_44 hw)
  · exact (ow_45 hw)
theorem ow_46 {Z : State} {a0 : Array Value} (hw : ∀ d ∈ tables_1, d.before a0 Z = true) : (Jvm.Cond.methodLink "com/example/binlease/binlease/model/ServerRoomPinLaw" (24 : Nat) ({ cls := "com/example/binlease/binlease/model/Job", name := "<init>", desc := "(Ljava/lang/String;JJ[J)V" } : Jvm.MethodName)).before a0 Z = true := hw _ (List.mem_of_getElem? (i := 46) rfl)
theorem opd__Ljava_lang_String_JJ_J_V : parseMethodDescriptor "(Ljava/lang/String;JJ[J)V" = some ⟨[(.object "java/lang/String"), .long, .long, (.array .long)], none⟩ := by decide +kernel
theorem ow_47 {Z : State} {a0 : Array Value} (hw : ∀ d ∈ tables_1, d.before a0 Z = true) : (Jvm.Cond.instanceMethod ({ cls := "com/example/binlease/binlease/model/Job", name := "<init>", desc := "(Ljava/lang/String;JJ[J)V" } : Jvm.MethodName)).before a0 Z = true := hw _ (List.mem_of_getElem? (i := 47) rfl)
theorem ow_48 {Z : State} {a0 : Array Value} (hw : ∀ d ∈ tables_1, d.before a0 Z = true) : (Jvm.Cond.code ({ cls := "com/example/binlease/binlease/model/Job", name := "<init>", desc := "(Ljava/lang/String;JJ[J)V" } : Jvm.MethodName) prog_24_method_2_code (7 : Nat) (Option.none : Option Jvm.ClassFile.FieldType)).before a0 Z = true := hw _ (List.mem_of_getElem? (i := 48) rfl)
theorem ow_65 {Z : State} {a0 : Array Value} (hw : ∀ d ∈ tables_1, d.before a0 Z = true) : (Jvm.Cond.methodLink "com/example/binlease/binlease/model/ServerRoomPinLaw" (27 : Nat) ({ cls := "com/example/binlease/binlease/model/Server", name := "add", desc := "(Lcom/example/binlease/binlease/model/Job;)V" } : Jvm.MethodName)).before a0 Z = true := hw _ (List.mem_of_getElem? (i := 65) rfl)
theorem ow_68 {Z : State} {a0 : Array Value} (hw : ∀ d ∈ tables_1, d.before a0 Z = true) : (Jvm.Cond.selects "com/example/binlease/binlease/model/Server" ({ cls := "com/example/binlease/binlease/model/Server", name := "add", desc := "(Lcom/example/binlease/binlease/model/Job;)V" } : Jvm.MethodName) ({ cls := "com/example/binlease/binlease/model/Server", name := "add", desc := "(Lcom/example/binlease/binlease/model/Job;)V" } : Jvm.MethodName)).before a0 Z = true := hw _ (List.mem_of_getElem? (i := 68) rfl)
theorem opd__Lcom_example_binlease_binlease_model_Job__V : parseMethodDescriptor "(Lcom/example/binlease/binlease/model/Job;)V" = some ⟨[(.object "com/example/binlease/binlease/model/Job")], none⟩ := by decide +kernel
theorem ow_66 {Z : State} {a0 : Array Value} (hw : ∀ d ∈ tables_1, d.before a0 Z = true) : (Jvm.Cond.declares ({ cls := "com/example/binlease/binlease/model/Server", name := "add", desc := "(Lcom/example/binlease/binlease/model/Job;)V" } : Jvm.MethodName)).before a0 Z = true := hw _ (List.mem_of_getElem? (i := 66) rfl)
theorem ow_67 {Z : State} {a0 : Array Value} (hw : ∀ d ∈ tables_1, d.before a0 Z = true) : (Jvm.Cond.instanceMethod ({ cls := "com/example/binlease/binlease/model/Server", name := "add", desc := "(Lcom/example/binlease/binlease/model/Job;)V" } : Jvm.MethodName)).before a0 Z = true := hw _ (List.mem_of_getElem? (i := 67) rfl)
theorem ow_69 {Z : State} {a0 : Array Value} (hw : ∀ d ∈ tables_1, d.before a0 Z = true) : (Jvm.Cond.code ({ cls := "com/example/binlease/binlease/model/Server", name := "add", desc := "(Lcom/example/binlease/binlease/model/Job;)V" } : Jvm.MethodName) prog_25_method_11_code (3 : Nat) (Option.none : Option Jvm.ClassFile.FieldType)).before a0 Z = true := hw _ (List.mem_of_getElem? (i := 69) rfl)
theorem ow_77 {Z : State} {a0 : Array Value} (hw : ∀ d ∈ tables_1, d.before a0 Z = true) : (Jvm.Cond.methodLink "com/example/binlease/binlease/model/ServerRoomPinLaw" (31 : Nat) ({ cls := "com/example/binlease/binlease/model/Server", name := "load", desc := "(I)J" } : Jvm.MethodName)).before a0 Z = true := hw _ (List.mem_of_getElem? (i := 77) rfl)
theorem ow_80 {Z : State} {a0 : Array Value} (hw : ∀ d ∈ tables_1, d.before a0 Z = true) : (Jvm.Cond.selects "com/example/binlease/binlease/model/Server" ({ cls := "com/example/binlease/binlease/model/Server", name := "load", desc := "(I)J" } : Jvm.MethodName) ({ cls := "com/example/binlease/binlease/model/Server", name := "load", desc := "(I)J" } : Jvm.MethodName)).before a0 Z = true := hw _ (List.mem_of_getElem? (i := 80) rfl)
theorem ow_78 {Z : State} {a0 : Array Value} (hw : ∀ d ∈ tables_1, d.before a0 Z = true) : (Jvm.Cond.declares ({ cls := "com/example/binlease/binlease/model/Server", name := "load", desc := "(I)J" } : Jvm.MethodName)).before a0 Z = true := hw _ (List.mem_of_getElem? (i := 78) rfl)
theorem ow_79 {Z : State} {a0 : Array Value} (hw : ∀ d ∈ tables_1, d.before a0 Z = true) : (Jvm.Cond.instanceMethod ({ cls := "com/example/binlease/binlease/model/Server", name := "load", desc := "(I)J" } : Jvm.MethodName)).before a0 Z = true := hw _ (List.mem_of_getElem? (i := 79) rfl)
theorem ow_81 {Z : State} {a0 : Array Value} (hw : ∀ d ∈ tables_1, d.before a0 Z = true) : (Jvm.Cond.code ({ cls := "com/example/binlease/binlease/model/Server", name := "load", desc := "(I)J" } : Jvm.MethodName) prog_25_method_8_code (2 : Nat) (Option.some Jvm.ClassFile.FieldType.long)).before a0 Z = true := hw _ (List.mem_of_getElem? (i := 81) rfl)
theorem opn_com_example_binlease_binlease_model_ServerRoomPinLaw : plainName "com/example/binlease/binlease/model/ServerRoomPinLaw" = true := by first | (simp [plainName, overriddenIn]; done) | decide +kernel
theorem oef_law (m : MethodId) (u0 : Int64) (u1 : Int64) (u2 : Int64) (u3 : Int64) : entryFrame m #[(.long u0), (.long u1), (.long u2), (.long u3)] maxLocals = mkF m 0 #[.val (.long u0), .second, .val (.long u1), .second, .val (.long u2), .second, .val (.long u3), .second, .unset, .unset, .unset, .unset, .unset, .unset, .unset, .unset, .unset, .unset, .unset, .unset, .unset, .unset, .unset] [] := by first | (simp [entryFrame, mkF, argsToLocals, Value.category, maxLocals]; done) | rfl
set_option maxRecDepth 65536 in
set_option maxHeartbeats 40000000 in
theorem own_law (l : Launch) (Z : State) (a0 : Array Value) (hw : ∀ d ∈ tables_1, d.before a0 Z = true) (u0 : Int64) (u1 : Int64) (u2 : Int64) (u3 : Int64) (h0 : Heap) (n0 : Nat) (Z0 : n0 ≤ h0.size) :
    own_MW l Z x code maxLocals ret tables_1 room_1 #[(.long u0), (.long u1), (.long u2), (.long u3)] h0 (fun v h L => v = some (.int 1) ∧ Fr n0 L) 9 30 := by
  refine own_bodyW (plainFor_of_name opn_com_example_binlease_binlease_model_ServerRoomPinLaw) ?_
  intro p e s m below meth c s1 hx hby hml' hown hnm hret hlk hZ X0 e0
  have hml : c.maxLocals = 23 := hml'
  rw [oef_law m u0 u1 u2 u3]
  have N0 := Fr.nil n0
  refine own_lload X0 hx (hb hby at_0) rfl (pc' := 2) rfl ?_
  refine own_ldc2 X0 hx hZ hown (ow_0 hw) (hb hby at_2) (pc' := 5) rfl ?_
  refine own_land X0 hx (hb hby at_5) (pc' := 6) rfl ?_
  refine own_lstore X0 hx (hb hby at_6) (l' := #[.val (.long u0), .second, .val (.long u1), .second, .val (.long u2), .second, .val (.long u3), .second, .val (.long (u2 &&& (9223372036854775807 : Int64))), .second, .unset, .unset, .unset, .unset, .unset, .unset, .unset, .unset, .unset, .unset, .unset, .unset, .unset]) rfl (pc' := 8) rfl ?_
  refine own_lload X0 hx (hb hby at_8) rfl (pc' := 10) rfl ?_
  refine own_ldc2 X0 hx hZ hown (ow_0 hw) (hb hby at_10) (pc' := 13) rfl ?_
  refine own_land X0 hx (hb hby at_13) (pc' := 14) rfl ?_
  refine own_lstore X0 hx (hb hby at_14) (l' := #[.val (.long u0), .second, .val (.long u1), .second, .val (.long u2), .second, .val (.long u3), .second, .val (.long (u2 &&& (9223372036854775807 : Int64))), .second, .val (.long (u3 &&& (9223372036854775807 : Int64))), .second, .unset, .unset, .unset, .unset, .unset, .unset, .unset, .unset, .unset, .unset, .unset]) rfl (pc' := 16) rfl ?_
  refine own_iconst X0 hx (hb hby at_16) (z := (2 : Int32)) rfl (pc' := 17) rfl ?_
  refine own_newE X0 hx hZ (ow_1 hw) e0 (hb hby at_17) (pc' := 19) rfl (by decide) (cap := 2) (by decide) (by decide) (by decide) (by decide) ?_
  intro T1 h1 a1 g1 X1 e1 E1 A1 Bx1
  have ge_a1 : n0 ≤ a1 := by rw [g1]; exact Z0
  have B1 : own_AJ Z h1 a1 .long (2 : Int32) (own_LJ [(0 : Int64), (0 : Int64)]) := A1.same (by decide)
  refine own_dup X1 hx (hb hby at_19) rfl (pc' := 20) rfl ?_
  refine own_iconst X1 hx (hb hby at_20) (z := (0 : Int32)) rfl (pc' := 21) rfl ?_
  refine own_lloadN X1 hx (hb hby at_21) rfl (pc' := 22) rfl ?_
  refine own_lastore X1 hx hZ e1 (g' := (own_LJ [u0, (0 : Int64)])) B1 (x' := u0) (by decide) rfl (fun i _ => own_LJ_set [(0 : Int64), (0 : Int64)] 0 u0 (by simp) i) (hb hby at_22) (pc' := 23) rfl ?_
  intro T2 h2 X2 e2 W2 A2
  have N2 := Fr.snoc X2 N0 ge_a1
  refine own_dup X2 hx (hb hby at_23) rfl (pc' := 24) rfl ?_
  refine own_iconst X2 hx (hb hby at_24) (z := (1 : Int32)) rfl (pc' := 25) rfl ?_
  refine own_lloadN X2 hx (hb hby at_25) rfl (pc' := 26) rfl ?_
  refine own_lastore X2 hx hZ e2 (g' := (own_LJ [u0, u1])) A2 (x' := u1) (by decide) rfl (fun i _ => own_LJ_set [u0, (0 : Int64)] 1 u1 (by simp) i) (hb hby at_26) (pc' := 27) rfl ?_
  intro T3 h3 X3 e3 W3 A3
  have N3 := Fr.snoc X3 N2 ge_a1
  refine own_astore X3 hx (hb hby at_27) rfl (l' := #[.val (.long u0), .second, .val (.long u1), .second, .val (.long u2), .second, .val (.long u3), .second, .val (.long (u2 &&& (9223372036854775807 : Int64))), .second, .val (.long (u3 &&& (9223372036854775807 : Int64))), .second, .val (.ref a1), .unset, .unset, .unset, .unset, .unset, .unset, .unset, .unset, .unset, .unset]) rfl (pc' := 29) rfl ?_
  refine own_iconst X3 hx (hb hby at_29) (z := (2 : Int32)) rfl (pc' := 30) rfl ?_
  have z5 : n0 ≤ h3.size := (Nat.le_trans (Nat.le_trans (Nat.le_trans Z0 E1.1) (Nat.le_of_eq (Wr.size W2).symm)) (Nat.le_of_eq (Wr.size W3).symm))
  have f6 : Exa Z h3 a1 "[J" := ((Bx1.wr W2).wr W3)
  refine own_newE X3 hx hZ (ow_1 hw) e3 (hb hby at_30) (pc' := 32) rfl (by decide) (cap := 2) (by decide) (by decide) (by decide) (by decide) ?_
  intro T4 h4 a4 g4 X4 e4 E4 A4 Bx4
  have lt_a1_a4 : a1 < a4 := by rw [g4]; exact f6.lt
  have ge_a4 : n0 ≤ a4 := by rw [g4]; exact z5
  have B4 : own_AJ Z h4 a4 .long (2 : Int32) (own_LJ [(0 : Int64), (0 : Int64)]) := A4.same (by decide)
  refine own_dup X4 hx (hb hby at_32) rfl (pc' := 33) rfl ?_
  refine own_iconst X4 hx (hb hby at_33) (z := (0 : Int32)) rfl (pc' := 34) rfl ?_
  refine own_lload X4 hx (hb hby at_34) rfl (pc' := 36) rfl ?_
  refine own_lastore X4 hx hZ e4 (g' := (own_LJ [(u2 &&& (9223372036854775807 : Int64)), (0 : Int64)])) B4 (x' := (u2 &&& (9223372036854775807 : Int64))) (by decide) rfl (fun i _ => own_LJ_set [(0 : Int64), (0 : Int64)] 0 (u2 &&& (9223372036854775807 : Int64)) (by simp) i) (hb hby at_36) (pc' := 37) rfl ?_
  intro T7 h7 X7 e7 W7 A7
  have N7 := Fr.snoc X7 N3 ge_a4
  refine own_dup X7 hx (hb hby at_37) rfl (pc' := 38) rfl ?_
  refine own_iconst X7 hx (hb hby at_38) (z := (1 : Int32)) rfl (pc' := 39) rfl ?_
  refine own_lload X7 hx (hb hby at_39) rfl (pc' := 41) rfl ?_
  refine own_lastore X7 hx hZ e7 (g' := (own_LJ [(u2 &&& (9223372036854775807 : Int64)), (u3 &&& (9223372036854775807 : Int64))])) A7 (x' := (u3 &&& (9223372036854775807 : Int64))) (by decide) rfl (fun i _ => own_LJ_set [(u2 &&& (9223372036854775807 : Int64)), (0 : Int64)] 1 (u3 &&& (9223372036854775807 : Int64)) (by simp) i) (hb hby at_41) (pc' := 42) rfl ?_
  intro T8 h8 X8 e8 W8 A8
  have N8 := Fr.snoc X8 N7 ge_a4
  refine own_astore X8 hx (hb hby at_42) rfl (l' := #[.val (.long u0), .second, .val (.long u1), .second, .val (.long u2), .second, .val (.long u3), .second, .val (.long (u2 &&& (9223372036854775807 : Int64))), .second, .val (.long (u3 &&& (9223372036854775807 : Int64))), .second, .val (.ref a1), .val (.ref a4), .unset, .unset, .unset, .unset, .unset, .unset, .unset, .unset, .unset]) rfl (pc' := 44) rfl ?_
  have z10 : n0 ≤ h8.size := (Nat.le_trans (Nat.le_trans (Nat.le_trans z5 E4.1) (Nat.le_of_eq (Wr.size W7).symm)) (Nat.le_of_eq (Wr.size W8).symm))
  have f11 : Exa Z h8 a1 "[J" := (((f6.ext E4).wr W7).wr W8)
  have f12 : Exa Z h8 a4 "[J" := ((Bx4.wr W7).wr W8)
  refine own_new X8 hx hZ hown (ow_2 hw) (ow_3 hw) (ow_4 hw) e8 (hb hby at_44) (pc' := 47) rfl (by decide) (by decide) ?_
  intro T9 h9 a9 g9 X9 e9 E9 A9 D9
  have lt_a1_a9 : a1 < a9 := by rw [g9]; exact f11.lt
  have lt_a4_a9 : a4 < a9 := by rw [g9]; exact f12.lt
  have ge_a9 : n0 ≤ a9 := by rw [g9]; exact z10
  have F9_open : Fld Z h9 a9 "com/example/binlease/binlease/model/Server" "open" "Z" (.int (0 : Int32)) := D9 (Or.inl (ow_12 hw)) (ty := .boolean) (by decide)
  have F9_number : Fld Z h9 a9 "com/example/binlease/binlease/model/Server" "number" "I" (.int (0 : Int32)) := D9 (Or.inr (ow_14 hw)) (ty := .int) (by decide)
  have F9_capacity : Fld Z h9 a9 "com/example/binlease/binlease/model/Server" "capacity" "[J" (.null) := D9 (Or.inr (ow_25 hw)) (ty := (.array .long)) (by decide)
  have F9_load : Fld Z h9 a9 "com/example/binlease/binlease/model/Server" "load" "[J" (.null) := D9 (Or.inr (ow_27 hw)) (ty := (.array .long)) (by decide)
  have F9_openedAt : Fld Z h9 a9 "com/example/binlease/binlease/model/Server" "openedAt" "J" (.long (0 : Int64)) := D9 (Or.inr (ow_29 hw)) (ty := .long) (by decide)
  have F9_jobs : Fld Z h9 a9 "com/example/binlease/binlease/model/Server" "jobs" "I" (.int (0 : Int32)) := D9 (Or.inl (ow_76 hw)) (ty := .int) (by decide)
  refine own_dup X9 hx (hb hby at_47) rfl (pc' := 48) rfl ?_
  refine own_iconst X9 hx (hb hby at_48) (z := (1 : Int32)) rfl (pc' := 49) rfl ?_
  refine own_aload X9 hx (hb hby at_49) rfl rfl (pc' := 51) rfl ?_
  refine own_lconst X9 hx (hb hby at_51) (z := (0 : Int64)) (by decide) (pc' := 52) rfl ?_
  have f14 : Exa Z h9 a1 "[J" := (f11.ext E9)
  have f15 : own_AJ Z h9 a1 .long (2 : Int32) (own_LJ [u0, u1]) := ((((A3.ext E4).other W7 (Nat.ne_of_lt lt_a1_a4)).other W8 (Nat.ne_of_lt lt_a1_a4)).ext E9)
  have z16 : n0 ≤ h9.size := (Nat.le_trans z10 E9.1)
  refine own_callC X9 hx hZ rfl hown (ow_5 hw) (ow_6 hw) (ow_4 hw) (ow_7 hw) (by decide) (rm_srv l Z a0 hw a9 a1 (1 : Int32) (0 : Int64) u0 u1 (.int (0 : Int32)) (.int (0 : Int32)) .null .null (.long (0 : Int64)) (0 : Int32) h9 n0 z16 A9 f14 f15 F9_open F9_number F9_capacity F9_load F9_openedAt F9_jobs ge_a9 (Nat.ne_of_gt lt_a1_a9)) e9 (W := 1) (by decide) (by decide) opd__I_JJ_V rfl (rest := [(.ref a9)]) rfl (hb hby at_52) (Nat.le_of_eq rfl) (by rw [hml]; rfl) (by decide) (by decide) (pc' := 55) rfl ?_
  intro v13 T13 L13 X13 q13
  have f17 : Exa Z h9 a4 "[J" := (f12.ext E9)
  obtain ⟨rc_13, rd_13, rfl, Nq13, K13, gz13_rc_13, gz13_rd_13, p13_0, p13_1, p13_2, p13_3, p13_4, p13_5, p13_6, p13_7, p13_8, p13_9, x13_0⟩ := q13
  have lt_a1_rc_13 : a1 < rc_13 := Nat.lt_of_lt_of_le f14.lt gz13_rc_13
  have lt_a1_rd_13 : a1 < rd_13 := Nat.lt_of_lt_of_le f14.lt gz13_rd_13
  have lt_a4_rc_13 : a4 < rc_13 := Nat.lt_of_lt_of_le f17.lt gz13_rc_13
  have lt_a4_rd_13 : a4 < rd_13 := Nat.lt_of_lt_of_le f17.lt gz13_rd_13
  have lt_a9_rc_13 : a9 < rc_13 := Nat.lt_of_lt_of_le A9.lt gz13_rc_13
  have lt_a9_rd_13 : a9 < rd_13 := Nat.lt_of_lt_of_le A9.lt gz13_rd_13
  have ge_rc_13 : n0 ≤ rc_13 := Nat.le_trans z16 gz13_rc_13
  have ge_rd_13 : n0 ≤ rd_13 := Nat.le_trans z16 gz13_rd_13
  have N13 := Fr.app N8 Nq13
  show own_G p e below _ (T13.setTop (mkF m 55 #[.val (.long u0), .second, .val (.long u1), .second, .val (.long u2), .second, .val (.long u3), .second, .val (.long (u2 &&& (9223372036854775807 : Int64))), .second, .val (.long (u3 &&& (9223372036854775807 : Int64))), .second, .val (.ref a1), .val (.ref a4), .unset, .unset, .unset, .unset, .unset, .unset, .unset, .unset, .unset] [(.ref a9)]))
  refine own_astore X13 hx (hb hby at_55) rfl (l' := #[.val (.long u0), .second, .val (.long u1), .second, .val (.long u2), .second, .val (.long u3), .second, .val (.long (u2 &&& (9223372036854775807 : Int64))), .second, .val (.long (u3 &&& (9223372036854775807 : Int64))), .second, .val (.ref a1), .val (.ref a4), .val (.ref a9), .unset, .unset, .unset, .unset, .unset, .unset, .unset, .unset]) rfl (pc' := 57) rfl ?_
  refine own_aload X13 hx (hb hby at_57) rfl rfl (pc' := 59) rfl ?_
  refine own_iconst X13 hx (hb hby at_59) (z := (0 : Int32)) rfl (pc' := 60) rfl ?_
  have z19 : n0 ≤ T13.heap.size := (Nat.le_trans z16 K13.1)
  have f20 : Exa Z T13.heap a9 "com/example/binlease/binlease/model/Server" := (A9.keep K13)
  refine own_callV X13 hx hZ hown (ow_30 hw) (ow_31 hw) (ow_33 hw) (ow_32 hw) (ow_4 hw) (ow_34 hw) (by decide) f20 (rm_room0 l Z a0 hw a9 rc_13 rd_13 u0 u1 (0 : Int64) (0 : Int64) T13.heap n0 z19 p13_2 p13_3 p13_7 p13_9) rfl (W := 0) (by decide) (by decide) opd__I_J rfl (rest := []) rfl (hb hby at_60) (Nat.le_of_eq rfl) (by rw [hml]; rfl) (by decide) (by decide) (pc' := 63) rfl ?_
  intro v18 T18 L18 X18 q18
  obtain ⟨rfl, Nq18, eh18⟩ := q18
  have N18 := Fr.app N13 Nq18
  show own_G p e below _ (T18.setTop (mkF m 63 #[.val (.long u0), .second, .val (.long u1), .second, .val (.long u2), .second, .val (.long u3), .second, .val (.long (u2 &&& (9223372036854775807 : Int64))), .second, .val (.long (u3 &&& (9223372036854775807 : Int64))), .second, .val (.ref a1), .val (.ref a4), .val (.ref a9), .unset, .unset, .unset, .unset, .unset, .unset, .unset, .unset] [(.long (u0 - (0 : Int64)))]))
  refine own_lloadN X18 hx (hb hby at_63) rfl (pc' := 64) rfl ?_
  refine own_lcmp X18 hx (hb hby at_64) (pc' := 65) rfl ?_
  refine own_ifF X18 hx (hb hby at_65) (own_eqL (own_s0 u0)).2 (pc' := 68) rfl ?_
  refine own_aload X18 hx (hb hby at_68) rfl rfl (pc' := 70) rfl ?_
  refine own_iconst X18 hx (hb hby at_70) (z := (1 : Int32)) rfl (pc' := 71) rfl ?_
  refine own_callV X18 hx hZ hown (ow_30 hw) (ow_31 hw) (ow_33 hw) (ow_32 hw) (ow_4 hw) (ow_34 hw) (by decide) f20 (rm_room1 l Z a0 hw a9 rc_13 rd_13 u0 u1 (0 : Int64) (0 : Int64) T13.heap n0 z19 p13_2 p13_3 p13_7 p13_9) eh18 (W := 0) (by decide) (by decide) opd__I_J rfl (rest := []) rfl (hb hby at_71) (Nat.le_of_eq rfl) (by rw [hml]; rfl) (by decide) (by decide) (pc' := 74) rfl ?_
  intro v21 T21 L21 X21 q21
  obtain ⟨rfl, Nq21, eh21⟩ := q21
  have N21 := Fr.app N18 Nq21
  show own_G p e below _ (T21.setTop (mkF m 74 #[.val (.long u0), .second, .val (.long u1), .second, .val (.long u2), .second, .val (.long u3), .second, .val (.long (u2 &&& (9223372036854775807 : Int64))), .second, .val (.long (u3 &&& (9223372036854775807 : Int64))), .second, .val (.ref a1), .val (.ref a4), .val (.ref a9), .unset, .unset, .unset, .unset, .unset, .unset, .unset, .unset] [(.long (u1 - (0 : Int64)))]))
  refine own_lloadN X21 hx (hb hby at_74) rfl (pc' := 75) rfl ?_
  refine own_lcmp X21 hx (hb hby at_75) (pc' := 76) rfl ?_
  refine own_ifF X21 hx (hb hby at_76) (own_eqL (own_s0 u1)).2 (pc' := 79) rfl ?_
  refine own_iconst X21 hx (hb hby at_79) (z := (1 : Int32)) rfl (pc' := 80) rfl ?_
  refine own_goto X21 hx (hb hby at_80) (by decide) (pc' := 84) rfl ?_
  refine own_istore X21 hx (hb hby at_84) (l' := #[.val (.long u0), .second, .val (.long u1), .second, .val (.long u2), .second, .val (.long u3), .second, .val (.long (u2 &&& (9223372036854775807 : Int64))), .second, .val (.long (u3 &&& (9223372036854775807 : Int64))), .second, .val (.ref a1), .val (.ref a4), .val (.ref a9), .val (.int (1 : Int32)), .unset, .unset, .unset, .unset, .unset, .unset, .unset]) rfl (pc' := 86) rfl ?_
  have f23 : Exa Z T13.heap a1 "[J" := (f14.keep K13)
  have f24 : Exa Z T13.heap a4 "[J" := (f17.keep K13)
  refine own_new X21 hx hZ hown (ow_35 hw) (ow_36 hw) (ow_37 hw) eh21 (hb hby at_86) (pc' := 89) rfl (by decide) (by decide) ?_
  intro T22 h22 a22 g22 X22 e22 E22 A22 D22
  have lt_a1_a22 : a1 < a22 := by rw [g22]; exact f23.lt
  have lt_a4_a22 : a4 < a22 := by rw [g22]; exact f24.lt
  have lt_a9_a22 : a9 < a22 := by rw [g22]; exact f20.lt
  have lt_rc_13_a22 : rc_13 < a22 := by rw [g22]; exact p13_6.lt
  have lt_rd_13_a22 : rd_13 < a22 := by rw [g22]; exact p13_8.lt
  have ge_a22 : n0 ≤ a22 := by rw [g22]; exact z19
  have F22_id : Fld Z h22 a22 "com/example/binlease/binlease/model/Job" "id" "Ljava/lang/String;" (.null) := D22 (Or.inr (ow_54 hw)) (ty := (.object "java/lang/String")) (by decide)
  have F22_arrival : Fld Z h22 a22 "com/example/binlease/binlease/model/Job" "arrival" "J" (.long (0 : Int64)) := D22 (Or.inr (ow_56 hw)) (ty := .long) (by decide)
  have F22_departure : Fld Z h22 a22 "com/example/binlease/binlease/model/Job" "departure" "J" (.long (0 : Int64)) := D22 (Or.inr (ow_58 hw)) (ty := .long) (by decide)
  have F22_departureKnown : Fld Z h22 a22 "com/example/binlease/binlease/model/Job" "departureKnown" "Z" (.int (0 : Int32)) := D22 (Or.inr (ow_60 hw)) (ty := .boolean) (by decide)
  have F22_sizes : Fld Z h22 a22 "com/example/binlease/binlease/model/Job" "sizes" "[J" (.null) := D22 (Or.inr (ow_64 hw)) (ty := (.array .long)) (by decide)
  refine own_dup X22 hx (hb hby at_89) rfl (pc' := 90) rfl ?_
  refine own_ldcS X22 hx hZ hown (ow_38 hw) (own_wS hw) e22 (hb hby at_90) (n := 4) (by decide) (by decide) (by decide) (by decide) (pc' := 92) rfl ?_
  intro a25 T25 h25 k1 X25 e25 E25 hSi hki hZ hown
  refine own_lconst X25 hx (hb hby at_92) (z := (0 : Int64)) (by decide) (pc' := 93) rfl ?_
  refine own_lconst X25 hx (hb hby at_93) (z := (0 : Int64)) (by decide) (pc' := 94) rfl ?_
  refine own_aload X25 hx (hb hby at_94) rfl rfl (pc' := 96) rfl ?_
  have f27 : Exa Z h25 a22 "com/example/binlease/binlease/model/Job" := (A22.ext E25)
  have f28 : Exa Z h25 a4 "[J" := ((f24.ext E22).ext E25)
  have f29 : own_AJ Z h25 a4 .long (2 : Int32) (own_LJ [(u2 &&& (9223372036854775807 : Int64)), (u3 &&& (9223372036854775807 : Int64))]) := ((((A8.ext E9).keep K13 (ninS (Nat.ne_of_lt lt_a4_a9) nin0)).ext E22).ext E25)
  have f30 : Fld Z h25 a22 "com/example/binlease/binlease/model/Job" "id" "Ljava/lang/String;" (.null) := (F22_id.ext E25)
  have f31 : Fld Z h25 a22 "com/example/binlease/binlease/model/Job" "arrival" "J" (.long (0 : Int64)) := (F22_arrival.ext E25)
  have f32 : Fld Z h25 a22 "com/example/binlease/binlease/model/Job" "departure" "J" (.long (0 : Int64)) := (F22_departure.ext E25)
  have f33 : Fld Z h25 a22 "com/example/binlease/binlease/model/Job" "departureKnown" "Z" (.int (0 : Int32)) := (F22_departureKnown.ext E25)
  have f34 : Fld Z h25 a22 "com/example/binlease/binlease/model/Job" "sizes" "[J" (.null) := (F22_sizes.ext E25)
  have z35 : n0 ≤ h25.size := (Nat.le_trans (Nat.le_trans z19 E22.1) E25.1)
  refine own_callC X25 hx hZ rfl hown (ow_46 hw) (ow_47 hw) (ow_37 hw) (ow_48 hw) (by decide) (rm_job1 l Z a0 hw a22 a25 a4 (0 : Int64) (0 : Int64) (u2 &&& (9223372036854775807 : Int64)) (u3 &&& (9223372036854775807 : Int64)) .null (.long (0 : Int64)) (.long (0 : Int64)) (.int (0 : Int32)) .null h25 n0 z35 f27 f28 f29 f30 f31 f32 f33 f34 ge_a22 (Nat.ne_of_gt lt_a4_a22) (own_nn u2) (own_nn u3) (by decide)) e25 (W := 1) (by decide) (by decide) opd__Ljava_lang_String_JJ_J_V rfl (rest := [(.ref a22)]) rfl (hb hby at_96) (Nat.le_of_eq rfl) (by rw [hml]; rfl) (by decide) (by decide) (pc' := 99) rfl ?_
  intro v26 T26 L26 X26 q26
  have f36 : Exa Z h25 a1 "[J" := ((f23.ext E22).ext E25)
  have f37 : Exa Z h25 a9 "com/example/binlease/binlease/model/Server" := ((f20.ext E22).ext E25)
  have f38 : Exa Z h25 rc_13 "[J" := ((p13_6.ext E22).ext E25)
  have f39 : Exa Z h25 rd_13 "[J" := ((p13_8.ext E22).ext E25)
  obtain ⟨rc_26, rfl, Nq26, K26, gz26_rc_26, p26_0, p26_1, p26_2, p26_3, p26_4, p26_5, p26_6⟩ := q26
  have lt_a1_rc_26 : a1 < rc_26 := Nat.lt_of_lt_of_le f36.lt gz26_rc_26
  have lt_a22_rc_26 : a22 < rc_26 := Nat.lt_of_lt_of_le f27.lt gz26_rc_26
  have lt_a4_rc_26 : a4 < rc_26 := Nat.lt_of_lt_of_le f28.lt gz26_rc_26
  have lt_a9_rc_26 : a9 < rc_26 := Nat.lt_of_lt_of_le f37.lt gz26_rc_26
  have lt_rc_13_rc_26 : rc_13 < rc_26 := Nat.lt_of_lt_of_le f38.lt gz26_rc_26
  have lt_rd_13_rc_26 : rd_13 < rc_26 := Nat.lt_of_lt_of_le f39.lt gz26_rc_26
  have ge_rc_26 : n0 ≤ rc_26 := Nat.le_trans z35 gz26_rc_26
  have N26 := Fr.app N21 Nq26
  show own_G p e below _ (T26.setTop (mkF m 99 #[.val (.long u0), .second, .val (.long u1), .second, .val (.long u2), .second, .val (.long u3), .second, .val (.long (u2 &&& (9223372036854775807 : Int64))), .second, .val (.long (u3 &&& (9223372036854775807 : Int64))), .second, .val (.ref a1), .val (.ref a4), .val (.ref a9), .val (.int (1 : Int32)), .unset, .unset, .unset, .unset, .unset, .unset, .unset] [(.ref a22)]))
  refine own_astore X26 hx (hb hby at_99) rfl (l' := #[.val (.long u0), .second, .val (.long u1), .second, .val (.long u2), .second, .val (.long u3), .second, .val (.long (u2 &&& (9223372036854775807 : Int64))), .second, .val (.long (u3 &&& (9223372036854775807 : Int64))), .second, .val (.ref a1), .val (.ref a4), .val (.ref a9), .val (.int (1 : Int32)), .val (.ref a22), .unset, .unset, .unset, .unset, .unset, .unset]) rfl (pc' := 101) rfl ?_
  refine own_aload X26 hx (hb hby at_101) rfl rfl (pc' := 103) rfl ?_
  refine own_aload X26 hx (hb hby at_103) rfl rfl (pc' := 105) rfl ?_
  have f41 : Exa Z T26.heap a9 "com/example/binlease/binlease/model/Server" := (f37.keep K26)
  have f42 : Exa Z T26.heap a22 "com/example/binlease/binlease/model/Job" := (f27.keep K26)
  have f43 : Fld Z T26.heap a9 "com/example/binlease/binlease/model/Server" "load" "[J" (.ref rd_13) := (((p13_3.ext E22).ext E25).keep K26 (ninS (Nat.ne_of_lt lt_a9_a22) nin0))
  have f44 : Fld Z T26.heap a9 "com/example/binlease/binlease/model/Server" "jobs" "I" (.int (0 : Int32)) := (((p13_5.ext E22).ext E25).keep K26 (ninS (Nat.ne_of_lt lt_a9_a22) nin0))
  have f45 : own_AJ Z T26.heap rd_13 .long (2 : Int32) (own_LJ [(0 : Int64), (0 : Int64)]) := (((p13_9.ext E22).ext E25).keep K26 (ninS (Nat.ne_of_lt lt_rd_13_a22) nin0))
  have f46 : Fld Z T26.heap a9 "com/example/binlease/binlease/model/Server" "capacity" "[J" (.ref rc_13) := (((p13_2.ext E22).ext E25).keep K26 (ninS (Nat.ne_of_lt lt_a9_a22) nin0))
  have z47 : n0 ≤ T26.heap.size := (Nat.le_trans z35 K26.1)
  refine own_callV X26 hx hZ hown (ow_65 hw) (ow_66 hw) (ow_68 hw) (ow_67 hw) (ow_4 hw) (ow_69 hw) (by decide) f41 (rm_add l Z a0 hw a9 a22 rd_13 rc_26 rc_13 (0 : Int32) (0 : Int64) (0 : Int64) (u2 &&& (9223372036854775807 : Int64)) (u3 &&& (9223372036854775807 : Int64)) T26.heap n0 z47 f41 f42 f43 f44 p26_4 f45 p26_6 f46 ge_a9 ge_rd_13 (Nat.ne_of_lt lt_a9_a22) (Nat.ne_of_lt lt_a9_rd_13) (Nat.ne_of_lt lt_a9_rc_26) (Nat.ne_of_gt lt_rd_13_a22) (Nat.ne_of_lt lt_rd_13_rc_26)) rfl (W := 0) (by decide) (by decide) opd__Lcom_example_binlease_binlease_model_Job__V rfl (rest := []) rfl (hb hby at_105) (Nat.le_of_eq rfl) (by rw [hml]; rfl) (by decide) (by decide) (pc' := 108) rfl ?_
  intro v40 T40 L40 X40 q40
  obtain ⟨rfl, Nq40, K40, p40_0, p40_1, p40_2, p40_3⟩ := q40
  have N40 := Fr.app N26 Nq40
  show own_G p e below _ (T40.setTop (mkF m 108 #[.val (.long u0), .second, .val (.long u1), .second, .val (.long u2), .second, .val (.long u3), .second, .val (.long (u2 &&& (9223372036854775807 : Int64))), .second, .val (.long (u3 &&& (9223372036854775807 : Int64))), .second, .val (.ref a1), .val (.ref a4), .val (.ref a9), .val (.int (1 : Int32)), .val (.ref a22), .unset, .unset, .unset, .unset, .unset, .unset] []))
  refine own_aload X40 hx (hb hby at_108) rfl rfl (pc' := 110) rfl ?_
  refine own_iconst X40 hx (hb hby at_110) (z := (0 : Int32)) rfl (pc' := 111) rfl ?_
  have f49 : own_AJ Z T40.heap rc_13 .long (2 : Int32) (own_LJ [u0, u1]) := ((((p13_7.ext E22).ext E25).keep K26 (ninS (Nat.ne_of_lt lt_rc_13_a22) nin0)).keep K40 (ninS (Nat.ne_of_gt lt_a9_rc_13) (ninS (Nat.ne_of_lt x13_0) nin0)))
  have z50 : n0 ≤ T40.heap.size := (Nat.le_trans z47 K40.1)
  have f51 : Exa Z T40.heap a9 "com/example/binlease/binlease/model/Server" := (f41.keep K40)
  refine own_callV X40 hx hZ hown (ow_30 hw) (ow_31 hw) (ow_33 hw) (ow_32 hw) (ow_4 hw) (ow_34 hw) (by decide) f51 (rm_room0 l Z a0 hw a9 rc_13 rd_13 u0 u1 ((0 : Int64) + (u2 &&& (9223372036854775807 : Int64))) ((0 : Int64) + (u3 &&& (9223372036854775807 : Int64))) T40.heap n0 z50 p40_3 p40_0 f49 p40_2) rfl (W := 0) (by decide) (by decide) opd__I_J rfl (rest := []) rfl (hb hby at_111) (Nat.le_of_eq rfl) (by rw [hml]; rfl) (by decide) (by decide) (pc' := 114) rfl ?_
  intro v48 T48 L48 X48 q48
  obtain ⟨rfl, Nq48, eh48⟩ := q48
  have N48 := Fr.app N40 Nq48
  show own_G p e below _ (T48.setTop (mkF m 114 #[.val (.long u0), .second, .val (.long u1), .second, .val (.long u2), .second, .val (.long u3), .second, .val (.long (u2 &&& (9223372036854775807 : Int64))), .second, .val (.long (u3 &&& (9223372036854775807 : Int64))), .second, .val (.ref a1), .val (.ref a4), .val (.ref a9), .val (.int (1 : Int32)), .val (.ref a22), .unset, .unset, .unset, .unset, .unset, .unset] [(.long (u0 - ((0 : Int64) + (u2 &&& (9223372036854775807 : Int64)))))]))
  refine own_lstore X48 hx (hb hby at_114) (l' := #[.val (.long u0), .second, .val (.long u1), .second, .val (.long u2), .second, .val (.long u3), .second, .val (.long (u2 &&& (9223372036854775807 : Int64))), .second, .val (.long (u3 &&& (9223372036854775807 : Int64))), .second, .val (.ref a1), .val (.ref a4), .val (.ref a9), .val (.int (1 : Int32)), .val (.ref a22), .val (.long (u0 - ((0 : Int64) + (u2 &&& (9223372036854775807 : Int64))))), .second, .unset, .unset, .unset, .unset]) rfl (pc' := 116) rfl ?_
  refine own_aload X48 hx (hb hby at_116) rfl rfl (pc' := 118) rfl ?_
  refine own_iconst X48 hx (hb hby at_118) (z := (1 : Int32)) rfl (pc' := 119) rfl ?_
  refine own_callV X48 hx hZ hown (ow_30 hw) (ow_31 hw) (ow_33 hw) (ow_32 hw) (ow_4 hw) (ow_34 hw) (by decide) f51 (rm_room1 l Z a0 hw a9 rc_13 rd_13 u0 u1 ((0 : Int64) + (u2 &&& (9223372036854775807 : Int64))) ((0 : Int64) + (u3 &&& (9223372036854775807 : Int64))) T40.heap n0 z50 p40_3 p40_0 f49 p40_2) eh48 (W := 0) (by decide) (by decide) opd__I_J rfl (rest := []) rfl (hb hby at_119) (Nat.le_of_eq rfl) (by rw [hml]; rfl) (by decide) (by decide) (pc' := 122) rfl ?_
  intro v52 T52 L52 X52 q52
  obtain ⟨rfl, Nq52, eh52⟩ := q52
  have N52 := Fr.app N48 Nq52
  show own_G p e below _ (T52.setTop (mkF m 122 #[.val (.long u0), .second, .val (.long u1), .second, .val (.long u2), .second, .val (.long u3), .second, .val (.long (u2 &&& (9223372036854775807 : Int64))), .second, .val (.long (u3 &&& (9223372036854775807 : Int64))), .second, .val (.ref a1), .val (.ref a4), .val (.ref a9), .val (.int (1 : Int32)), .val (.ref a22), .val (.long (u0 - ((0 : Int64) + (u2 &&& (9223372036854775807 : Int64))))), .second, .unset, .unset, .unset, .unset] [(.long (u1 - ((0 : Int64) + (u3 &&& (9223372036854775807 : Int64)))))]))
  refine own_lstore X52 hx (hb hby at_122) (l' := #[.val (.long u0), .second, .val (.long u1), .second, .val (.long u2), .second, .val (.long u3), .second, .val (.long (u2 &&& (9223372036854775807 : Int64))), .second, .val (.long (u3 &&& (9223372036854775807 : Int64))), .second, .val (.ref a1), .val (.ref a4), .val (.ref a9), .val (.int (1 : Int32)), .val (.ref a22), .val (.long (u0 - ((0 : Int64) + (u2 &&& (9223372036854775807 : Int64))))), .second, .val (.long (u1 - ((0 : Int64) + (u3 &&& (9223372036854775807 : Int64))))), .second, .unset, .unset]) rfl (pc' := 124) rfl ?_
  refine own_lload X52 hx (hb hby at_124) rfl (pc' := 126) rfl ?_
  refine own_lloadN X52 hx (hb hby at_126) rfl (pc' := 127) rfl ?_
  refine own_lload X52 hx (hb hby at_127) rfl (pc' := 129) rfl ?_
  refine own_lsub X52 hx (hb hby at_129) (pc' := 130) rfl ?_
  refine own_lcmp X52 hx (hb hby at_130) (pc' := 131) rfl ?_
  refine own_ifF X52 hx (hb hby at_131) (own_eqL (own_f1 u0 _)).2 (pc' := 134) rfl ?_
  refine own_lload X52 hx (hb hby at_134) rfl (pc' := 136) rfl ?_
  refine own_lloadN X52 hx (hb hby at_136) rfl (pc' := 137) rfl ?_
  refine own_lload X52 hx (hb hby at_137) rfl (pc' := 139) rfl ?_
  refine own_lsub X52 hx (hb hby at_139) (pc' := 140) rfl ?_
  refine own_lcmp X52 hx (hb hby at_140) (pc' := 141) rfl ?_
  refine own_ifF X52 hx (hb hby at_141) (own_eqL (own_f1 u1 _)).2 (pc' := 144) rfl ?_
  refine own_iconst X52 hx (hb hby at_144) (z := (1 : Int32)) rfl (pc' := 145) rfl ?_
  refine own_goto X52 hx (hb hby at_145) (by decide) (pc' := 149) rfl ?_
  refine own_istore X52 hx (hb hby at_149) (l' := #[.val (.long u0), .second, .val (.long u1), .second, .val (.long u2), .second, .val (.long u3), .second, .val (.long (u2 &&& (9223372036854775807 : Int64))), .second, .val (.long (u3 &&& (9223372036854775807 : Int64))), .second, .val (.ref a1), .val (.ref a4), .val (.ref a9), .val (.int (1 : Int32)), .val (.ref a22), .val (.long (u0 - ((0 : Int64) + (u2 &&& (9223372036854775807 : Int64))))), .second, .val (.long (u1 - ((0 : Int64) + (u3 &&& (9223372036854775807 : Int64))))), .second, .val (.int (1 : Int32)), .unset]) rfl (pc' := 151) rfl ?_
  refine own_lload X52 hx (hb hby at_151) rfl (pc' := 153) rfl ?_
  refine own_lloadN X52 hx (hb hby at_153) rfl (pc' := 154) rfl ?_
  refine own_aload X52 hx (hb hby at_154) rfl rfl (pc' := 156) rfl ?_
  refine own_iconst X52 hx (hb hby at_156) (z := (0 : Int32)) rfl (pc' := 157) rfl ?_
  refine own_callV X52 hx hZ hown (ow_77 hw) (ow_78 hw) (ow_80 hw) (ow_79 hw) (ow_4 hw) (ow_81 hw) (by decide) f51 (rm_load0 l Z a0 hw a9 rd_13 ((0 : Int64) + (u2 &&& (9223372036854775807 : Int64))) ((0 : Int64) + (u3 &&& (9223372036854775807 : Int64))) T40.heap n0 z50 p40_0 p40_2) eh52 (W := 4) (by decide) (by decide) opd__I_J rfl (rest := [(.long u0), (.long (u0 - ((0 : Int64) + (u2 &&& (9223372036854775807 : Int64)))))]) rfl (hb hby at_157) (Nat.le_of_eq rfl) (by rw [hml]; rfl) (by decide) (by decide) (pc' := 160) rfl ?_
  intro v53 T53 L53 X53 q53
  obtain ⟨rfl, Nq53, eh53⟩ := q53
  have N53 := Fr.app N52 Nq53
  show own_G p e below _ (T53.setTop (mkF m 160 #[.val (.long u0), .second, .val (.long u1), .second, .val (.long u2), .second, .val (.long u3), .second, .val (.long (u2 &&& (9223372036854775807 : Int64))), .second, .val (.long (u3 &&& (9223372036854775807 : Int64))), .second, .val (.ref a1), .val (.ref a4), .val (.ref a9), .val (.int (1 : Int32)), .val (.ref a22), .val (.long (u0 - ((0 : Int64) + (u2 &&& (9223372036854775807 : Int64))))), .second, .val (.long (u1 - ((0 : Int64) + (u3 &&& (9223372036854775807 : Int64))))), .second, .val (.int (1 : Int32)), .unset] [(.long ((0 : Int64) + (u2 &&& (9223372036854775807 : Int64)))), (.long u0), (.long (u0 - ((0 : Int64) + (u2 &&& (9223372036854775807 : Int64)))))]))
  refine own_lsub X53 hx (hb hby at_160) (pc' := 161) rfl ?_
  refine own_lcmp X53 hx (hb hby at_161) (pc' := 162) rfl ?_
  refine own_ifF X53 hx (hb hby at_162) (own_eqL rfl).2 (pc' := 165) rfl ?_
  refine own_lload X53 hx (hb hby at_165) rfl (pc' := 167) rfl ?_
  refine own_lloadN X53 hx (hb hby at_167) rfl (pc' := 168) rfl ?_
  refine own_aload X53 hx (hb hby at_168) rfl rfl (pc' := 170) rfl ?_
  refine own_iconst X53 hx (hb hby at_170) (z := (1 : Int32)) rfl (pc' := 171) rfl ?_
  refine own_callV X53 hx hZ hown (ow_77 hw) (ow_78 hw) (ow_80 hw) (ow_79 hw) (ow_4 hw) (ow_81 hw) (by decide) f51 (rm_load1 l Z a0 hw a9 rd_13 ((0 : Int64) + (u2 &&& (9223372036854775807 : Int64))) ((0 : Int64) + (u3 &&& (9223372036854775807 : Int64))) T40.heap n0 z50 p40_0 p40_2) eh53 (W := 4) (by decide) (by decide) opd__I_J rfl (rest := [(.long u1), (.long (u1 - ((0 : Int64) + (u3 &&& (9223372036854775807 : Int64)))))]) rfl (hb hby at_171) (Nat.le_of_eq rfl) (by rw [hml]; rfl) (by decide) (by decide) (pc' := 174) rfl ?_
  intro v54 T54 L54 X54 q54
  obtain ⟨rfl, Nq54, eh54⟩ := q54
  have N54 := Fr.app N53 Nq54
  show own_G p e below _ (T54.setTop (mkF m 174 #[.val (.long u0), .second, .val (.long u1), .second, .val (.long u2), .second, .val (.long u3), .second, .val (.long (u2 &&& (9223372036854775807 : Int64))), .second, .val (.long (u3 &&& (9223372036854775807 : Int64))), .second, .val (.ref a1), .val (.ref a4), .val (.ref a9), .val (.int (1 : Int32)), .val (.ref a22), .val (.long (u0 - ((0 : Int64) + (u2 &&& (9223372036854775807 : Int64))))), .second, .val (.long (u1 - ((0 : Int64) + (u3 &&& (9223372036854775807 : Int64))))), .second, .val (.int (1 : Int32)), .unset] [(.long ((0 : Int64) + (u3 &&& (9223372036854775807 : Int64)))), (.long u1), (.long (u1 - ((0 : Int64) + (u3 &&& (9223372036854775807 : Int64)))))]))
  refine own_lsub X54 hx (hb hby at_174) (pc' := 175) rfl ?_
  refine own_lcmp X54 hx (hb hby at_175) (pc' := 176) rfl ?_
  refine own_ifF X54 hx (hb hby at_176) (own_eqL rfl).2 (pc' := 179) rfl ?_
  refine own_iconst X54 hx (hb hby at_179) (z := (1 : Int32)) rfl (pc' := 180) rfl ?_
  refine own_goto X54 hx (hb hby at_180) (by decide) (pc' := 184) rfl ?_
  refine own_istore X54 hx (hb hby at_184) (l' := #[.val (.long u0), .second, .val (.long u1), .second, .val (.long u2), .second, .val (.long u3), .second, .val (.long (u2 &&& (9223372036854775807 : Int64))), .second, .val (.long (u3 &&& (9223372036854775807 : Int64))), .second, .val (.ref a1), .val (.ref a4), .val (.ref a9), .val (.int (1 : Int32)), .val (.ref a22), .val (.long (u0 - ((0 : Int64) + (u2 &&& (9223372036854775807 : Int64))))), .second, .val (.long (u1 - ((0 : Int64) + (u3 &&& (9223372036854775807 : Int64))))), .second, .val (.int (1 : Int32)), .val (.int (1 : Int32))]) rfl (pc' := 186) rfl ?_
  refine own_iload X54 hx (hb hby at_186) rfl (pc' := 188) rfl ?_
  refine own_ifF X54 hx (hb hby at_188) (by decide) (pc' := 191) rfl ?_
  refine own_iload X54 hx (hb hby at_191) rfl (pc' := 193) rfl ?_
  refine own_ifF X54 hx (hb hby at_193) (by decide) (pc' := 196) rfl ?_
  refine own_iload X54 hx (hb hby at_196) rfl (pc' := 198) rfl ?_
  refine own_ifF X54 hx (hb hby at_198) (by decide) (pc' := 201) rfl ?_
  refine own_iconst X54 hx (hb hby at_201) (z := (1 : Int32)) rfl (pc' := 202) rfl ?_
  refine own_goto X54 hx (hb hby at_202) (by decide) (pc' := 206) rfl ?_
  exact own_retZW X54 hx hSi (by rw [eh54]; exact (Nat.le_trans (Nat.le_trans hki K26.1) K40.1)) hret hlk (Or.inr rfl) (hb hby at_206) ⟨rfl, N54⟩ (by decide) (by decide)
set_option maxRecDepth 65536 in
set_option maxHeartbeats 40000000 in
theorem comes_1 {Post : Tables → Env → Array Value → State → Outcome → State → Prop} (hpost : ∀ tb e args s v u, (limb_1_1.after args s (.returned v) u = true ∧ limb_1_2.after args s (.returned v) u = true ∧ True) → ReturnedEndW s (.returned v) u (Jvm.fieldLocs frame_1_writes args s ++ Jvm.arrayLocs frame_1_arrays args s ++ Jvm.staticLocs frame_1_statics s) 24 1152 → Post tb e args s (.returned v) u) :
    ArmFor flags0 classFile x code maxLocals ret World_1 tables_1 room_1 Calls_1 rest_1 Pre_1 Post := by
  intro l hfl _ _ p e ha hc hk s m args below hf hA hF happ hP
  obtain ⟨hcalls, hrest, hpre⟩ := hP
  obtain ⟨-, -, -, hnamed, -, -, -, hat⟩ := (Spec.applies_iff hf).mp happ
  obtain ⟨hg, hn⟩ := and_e (Cond.before_iff.mp (show (Jvm.Cond.and given_1 narrow_1).before args s = true from hpre))
  obtain ⟨gc, gr0⟩ := and_e hg
  obtain ⟨gk0, gr1⟩ := and_e gr0
  obtain ⟨gk1, gr2⟩ := and_e gr1
  obtain ⟨gk2, gr3⟩ := and_e gr2
  obtain ⟨w0, w1, w2, w3, rfl⟩ : ∃ w0 w1 w2 w3 : Value, args = #[w0, w1, w2, w3] := by
    have hs : args.size = 4 := by simpa [Cond.value, given_1] using gc
    obtain ⟨L⟩ := args
    match L, hs with
    | [w0, w1, w2, w3], _ => exact ⟨w0, w1, w2, w3, rfl⟩
  have hw := fun d (hd : d ∈ tables_1) => atoms_spec (ws := Jvm.Cond.code x code maxLocals ret :: tables_1) hat d (List.mem_cons_of_mem _ hd)
  obtain ⟨i0, ei0⟩ := isL_v gk0
  obtain rfl : w0 = (.long i0) := Option.some.inj ei0
  obtain ⟨i1, ei1⟩ := isL_v gk1
  obtain rfl : w1 = (.long i1) := Option.some.inj ei1
  obtain ⟨i2, ei2⟩ := isL_v gk2
  obtain rfl : w2 = (.long i2) := Option.some.inj ei2
  obtain ⟨i3, ei3⟩ := isL_v gr3
  obtain rfl : w3 = (.long i3) := Option.some.inj ei3
  obtain ⟨n, o, h1, h2, h3, _, L, rfl, ⟨rfl, N⟩, hq⟩ := own_law l s _ hw i0 i1 i2 i3 s.heap s.heap.size (Nat.le_refl _) p e ha hc hk s m _ below hf ((Spec.applies_iff_loose hf).mp happ).1 ⟨rfl, State.Warmed39.refl s, rfl⟩ trivial
  refine ⟨n, _, h1, h2, h3, hpost _ _ _ _ _ _ ⟨Cond.after_iff.mpr rfl, Cond.after_iff.mpr (eq_i res_at (Term.int_eval (1)) rfl), trivial⟩ ⟨hq.1, hq.2.1, hq.2.2.1, (hq.2.2.2.sift fun y hy => Or.inr (N y hy)).mono (by decide) (by decide)⟩⟩
theorem main_1_1 : Claimed_1_1 := comes_1 fun _ _ _ _ _ _ h hF => ⟨h.1, hF⟩
theorem main_1_2 : Claimed_1_2 := comes_1 fun _ _ _ _ _ _ h hF => ⟨h.2.1, hF⟩
end Jvm.Pilot.@@N@@
namespace Jvm.Pilot.@@N@@
open Jvm Jvm.ClassFile Sem Op Lib Jvm.Free Jvm.Stand Jvm.Pilot.@@N@@.Jvm.D
/-! MADE BY PROGRAM (witnessworld.py) out of the Statement's table words and the real class files: 17 classes; the members and pool entries that the words name. The judged class is class 1, her method 1. -/
namespace start1
open Jvm.ClassFile
def u (s : String) : CpInfo := .utf8 (stringToUtf16 s)
/-- a pool by its gaps: so many unusable entries, then the entry; so many at the end -/
def gap : Nat → List CpInfo → List CpInfo
  | 0, r => r
  | n + 1, r => .unusable :: gap n r
def poolList (es : List (Nat × CpInfo)) (last : Nat) : List CpInfo := es.foldr (fun e r => gap e.1 (e.2 :: r)) (gap last [])
def pool (es : List (Nat × CpInfo)) (last : Nat) : Array CpInfo := ⟨poolList es last⟩
def fileOf (pool : Array CpInfo) (this : Nat) (attrs : Array Attribute := #[]) (ms : Array MethodInfo := #[]) (fl : Nat := 33) (sup : Nat := 0) (ifs : Array Nat := #[]) (fds : Array FieldInfo := #[]) : ClassFile where
  minorVersion := 0
  majorVersion := 65
  constantPool := pool
  accessFlags := fl
  thisClass := this
  superClass := sup
  interfaces := ifs
  fields := fds
  methods := ms
  attributes := attrs
def plain (name : String) (sup : Option ClassId) : Class where
  name := name
  kind := .ordinary
  loader := none
  accessFlags := 33
  super := sup
  interfaces := #[]
  cf := none
  fields := #[]
  methods := #[]
  instanceTypes := #[]
  staticTypes := #[]
  resolved := #[]
  callSites := []
  init := .initialized
  statics := none
  mirror := none

def pool0 : Array CpInfo := pool [(5, u "<init>"), (0, u "()V"), (1, .class_ 10), (1, u "java/lang/Object"), (85, u "clone"), (0, u "()Ljava/lang/Object;")] 26

def k0c0 : Code := { maxStack := 0, maxLocals := 1, code := object_method_1_code, exceptionTable := #[], attributes := #[] }
def k0m0 : Method := { name := "<init>", desc := "()V", sig := { parameters := [], returnType := none }, accessFlags := 1, code := some k0c0 }
def k0m1 : Method := { name := "clone", desc := "()Ljava/lang/Object;", sig := { parameters := [], returnType := some (.object "java/lang/Object") }, accessFlags := 260, code := none }
/-- java/lang/Object -/
def k0 : Class := { plain "java/lang/Object" none with
  accessFlags := 33
  interfaces := #[]
  cf := some (fileOf pool0 8 #[] #[{ accessFlags := 1, nameIndex := 5, descriptorIndex := 6, attributes := #[] }, { accessFlags := 260, nameIndex := 96, descriptorIndex := 97, attributes := #[] }] 33 0 #[] #[])
  fields := #[]
  methods := #[k0m0, k0m1]
  instanceTypes := #[]
  staticTypes := #[]
  resolved := Array.replicate 124 none
  statics := none }

def pool1 : Array CpInfo := pool [(2, .class_ 4), (1, u "java/lang/Object"), (0, u "<init>"), (0, u "()V"), (2, .long 9223372036854775807), (1, .class_ 12), (0, u "com/example/binlease/binlease/model/Server"), (0, .methodref 11 14), (0, .nameAndType 5 15), (0, u "(I[JJ)V"), (0, .methodref 11 17), (0, .nameAndType 18 19), (0, u "room"), (0, u "(I)J"), (0, .class_ 21), (0, u "com/example/binlease/binlease/model/Job"), (0, .string 23), (0, u "j"), (0, .methodref 20 25), (0, .nameAndType 5 26), (0, u "(Ljava/lang/String;JJ[J)V"), (0, .methodref 11 28), (0, .nameAndType 29 30), (0, u "add"), (0, u "(Lcom/example/binlease/binlease/model/Job;)V"), (0, .methodref 11 32), (0, .nameAndType 33 19), (0, u "load"), (0, .class_ 35), (0, u "com/example/binlease/binlease/model/ServerRoomPinLaw"), (2, u "law"), (0, u "(JJJJ)Z")] 5

def k1m0 : Method := { name := "<init>", desc := "()V", sig := { parameters := [], returnType := none }, accessFlags := 1, code := none }
def k1c1 : Code := { maxStack := 8, maxLocals := 23, code := code, exceptionTable := #[], attributes := #[] }
def k1m1 : Method := { name := "law", desc := "(JJJJ)Z", sig := { parameters := [.long, .long, .long, .long], returnType := some .boolean }, accessFlags := 9, code := some k1c1 }
/-- com/example/binlease/binlease/model/ServerRoomPinLaw -/
def k1 : Class := { plain "com/example/binlease/binlease/model/ServerRoomPinLaw" (some 0) with
  accessFlags := 49
  interfaces := #[]
  cf := some (fileOf pool1 34 #[] #[{ accessFlags := 1, nameIndex := 5, descriptorIndex := 6, attributes := #[] }, { accessFlags := 9, nameIndex := 38, descriptorIndex := 39, attributes := #[] }] 49 2 #[] #[])
  fields := #[]
  methods := #[k1m0, k1m1]
  instanceTypes := #[]
  staticTypes := #[]
  resolved := Array.replicate 45 none
  statics := none }

def pool2 : Array CpInfo := pool [(1, .methodref 2 3), (0, .class_ 4), (0, .nameAndType 5 6), (0, u "java/lang/Object"), (0, u "<init>"), (0, u "()V"), (0, .fieldref 8 9), (0, .class_ 10), (0, .nameAndType 11 12), (0, u "com/example/binlease/binlease/model/Server"), (0, u "open"), (0, u "Z"), (0, .fieldref 8 14), (0, .nameAndType 15 16), (0, u "number"), (0, u "I"), (0, .methodref 18 19), (0, .class_ 20), (0, .nameAndType 21 22), (0, u "[J"), (0, u "clone"), (0, u "()Ljava/lang/Object;"), (0, .fieldref 8 24), (0, .nameAndType 25 20), (0, u "capacity"), (0, .fieldref 8 27), (0, .nameAndType 28 20), (0, u "load"), (0, .fieldref 8 30), (0, .nameAndType 31 32), (0, u "openedAt"), (0, u "J"), (2, u "closedAt"), (0, .fieldref 8 37), (0, .nameAndType 38 16), (0, u "jobs"), (0, .methodref 40 41), (0, .class_ 42), (0, .nameAndType 43 44), (0, u "com/example/binlease/binlease/model/Job"), (0, u "size"), (0, u "(I)J"), (2, u "room"), (0, u "(I[JJ)V"), (10, u "add"), (0, u "(Lcom/example/binlease/binlease/model/Job;)V")] 5

def k2c0 : Code := { maxStack := 3, maxLocals := 5, code := prog_25_method_1_code, exceptionTable := #[], attributes := #[] }
def k2m0 : Method := { name := "<init>", desc := "(I[JJ)V", sig := { parameters := [.int, (.array .long), .long], returnType := none }, accessFlags := 1, code := some k2c0 }
def k2c1 : Code := { maxStack := 2, maxLocals := 2, code := prog_25_method_8_code, exceptionTable := #[], attributes := #[] }
def k2m1 : Method := { name := "load", desc := "(I)J", sig := { parameters := [.int], returnType := some .long }, accessFlags := 1, code := some k2c1 }
def k2c2 : Code := { maxStack := 4, maxLocals := 2, code := prog_25_method_9_code, exceptionTable := #[], attributes := #[] }
def k2m2 : Method := { name := "room", desc := "(I)J", sig := { parameters := [.int], returnType := some .long }, accessFlags := 1, code := some k2c2 }
def k2c3 : Code := { maxStack := 6, maxLocals := 3, code := prog_25_method_11_code, exceptionTable := #[], attributes := #[] }
def k2m3 : Method := { name := "add", desc := "(Lcom/example/binlease/binlease/model/Job;)V", sig := { parameters := [(.object "com/example/binlease/binlease/model/Job")], returnType := none }, accessFlags := 1, code := some k2c3 }
/-- com/example/binlease/binlease/model/Server -/
def k2 : Class := { plain "com/example/binlease/binlease/model/Server" (some 0) with
  accessFlags := 49
  interfaces := #[]
  cf := some (fileOf pool2 8 #[] #[{ accessFlags := 1, nameIndex := 5, descriptorIndex := 48, attributes := #[] }, { accessFlags := 1, nameIndex := 28, descriptorIndex := 44, attributes := #[] }, { accessFlags := 1, nameIndex := 47, descriptorIndex := 44, attributes := #[] }, { accessFlags := 1, nameIndex := 59, descriptorIndex := 60, attributes := #[] }] 49 2 #[] #[{ accessFlags := 18, nameIndex := 15, descriptorIndex := 16, attributes := #[] }, { accessFlags := 18, nameIndex := 25, descriptorIndex := 20, attributes := #[] }, { accessFlags := 18, nameIndex := 28, descriptorIndex := 20, attributes := #[] }, { accessFlags := 18, nameIndex := 31, descriptorIndex := 32, attributes := #[] }, { accessFlags := 2, nameIndex := 35, descriptorIndex := 32, attributes := #[] }, { accessFlags := 2, nameIndex := 11, descriptorIndex := 12, attributes := #[] }, { accessFlags := 2, nameIndex := 38, descriptorIndex := 16, attributes := #[] }])
  fields := #[{ name := "number", type := .int, accessFlags := 18, slot := 0, constantValue := 0 }, { name := "capacity", type := (.array .long), accessFlags := 18, slot := 1, constantValue := 0 }, { name := "load", type := (.array .long), accessFlags := 18, slot := 2, constantValue := 0 }, { name := "openedAt", type := .long, accessFlags := 18, slot := 3, constantValue := 0 }, { name := "closedAt", type := .long, accessFlags := 2, slot := 4, constantValue := 0 }, { name := "open", type := .boolean, accessFlags := 2, slot := 5, constantValue := 0 }, { name := "jobs", type := .int, accessFlags := 2, slot := 6, constantValue := 0 }]
  methods := #[k2m0, k2m1, k2m2, k2m3]
  instanceTypes := #[.int, (.array .long), (.array .long), .long, .long, .boolean, .int]
  staticTypes := #[]
  resolved := Array.replicate 66 none
  statics := none }

def pool3 : Array CpInfo := pool [(1, .class_ 2), (0, u "java/lang/Cloneable"), (0, .class_ 4), (0, u "java/lang/Object")] 2

/-- java/lang/Cloneable -/
def k3 : Class := { plain "java/lang/Cloneable" (some 0) with
  accessFlags := 1537
  interfaces := #[]
  cf := some (fileOf pool3 1 #[] #[] 1537 3 #[] #[])
  fields := #[]
  methods := #[]
  instanceTypes := #[]
  staticTypes := #[]
  resolved := Array.replicate 7 none
  statics := none }

def pool4 : Array CpInfo := pool [(1, .class_ 2), (0, u "com/example/binlease/binlease/model/Job"), (4, .methodref 1 8), (0, .nameAndType 9 10), (0, u "<init>"), (0, u "(Ljava/lang/String;JJZ[J)V"), (9, .methodref 21 22), (0, .class_ 23), (0, .nameAndType 9 24), (0, u "java/lang/Object"), (0, u "()V"), (2, .fieldref 1 28), (0, .nameAndType 29 30), (0, u "id"), (0, u "Ljava/lang/String;"), (0, .fieldref 1 32), (0, .nameAndType 33 34), (0, u "arrival"), (0, u "J"), (0, .fieldref 1 36), (0, .nameAndType 37 34), (0, u "departure"), (0, .fieldref 1 39), (0, .nameAndType 40 41), (0, u "departureKnown"), (0, u "Z"), (0, .methodref 43 44), (0, .class_ 45), (0, .nameAndType 46 47), (0, u "[J"), (0, u "clone"), (0, u "()Ljava/lang/Object;"), (0, .fieldref 1 49), (0, .nameAndType 50 45), (0, u "sizes"), (29, u "MAX_TIME"), (1, u "HANDLED_TIMES"), (7, u "(Ljava/lang/String;JJ[J)V"), (7, u "size"), (0, u "(I)J")] 27

def k4c0 : Code := { maxStack := 8, maxLocals := 7, code := prog_24_method_2_code, exceptionTable := #[], attributes := #[] }
def k4m0 : Method := { name := "<init>", desc := "(Ljava/lang/String;JJ[J)V", sig := { parameters := [(.object "java/lang/String"), .long, .long, (.array .long)], returnType := none }, accessFlags := 129, code := some k4c0 }
def k4c1 : Code := { maxStack := 4, maxLocals := 13, code := prog_24_method_3_code, exceptionTable := #[], attributes := #[] }
def k4m1 : Method := { name := "<init>", desc := "(Ljava/lang/String;JJZ[J)V", sig := { parameters := [(.object "java/lang/String"), .long, .long, .boolean, (.array .long)], returnType := none }, accessFlags := 2, code := some k4c1 }
def k4c2 : Code := { maxStack := 2, maxLocals := 2, code := prog_24_method_11_code, exceptionTable := #[], attributes := #[] }
def k4m2 : Method := { name := "size", desc := "(I)J", sig := { parameters := [.int], returnType := some .long }, accessFlags := 1, code := some k4c2 }
/-- com/example/binlease/binlease/model/Job -/
def k4 : Class := { plain "com/example/binlease/binlease/model/Job" (some 0) with
  accessFlags := 49
  interfaces := #[]
  cf := some (fileOf pool4 1 #[] #[{ accessFlags := 129, nameIndex := 9, descriptorIndex := 90, attributes := #[] }, { accessFlags := 2, nameIndex := 9, descriptorIndex := 10, attributes := #[] }, { accessFlags := 1, nameIndex := 98, descriptorIndex := 99, attributes := #[] }] 49 21 #[] #[{ accessFlags := 25, nameIndex := 80, descriptorIndex := 34, attributes := #[] }, { accessFlags := 25, nameIndex := 82, descriptorIndex := 30, attributes := #[] }, { accessFlags := 18, nameIndex := 29, descriptorIndex := 30, attributes := #[] }, { accessFlags := 18, nameIndex := 33, descriptorIndex := 34, attributes := #[] }, { accessFlags := 18, nameIndex := 37, descriptorIndex := 34, attributes := #[] }, { accessFlags := 18, nameIndex := 40, descriptorIndex := 41, attributes := #[] }, { accessFlags := 18, nameIndex := 50, descriptorIndex := 45, attributes := #[] }])
  fields := #[{ name := "MAX_TIME", type := .long, accessFlags := 25, slot := 0, constantValue := 0 }, { name := "HANDLED_TIMES", type := (.object "java/lang/String"), accessFlags := 25, slot := 1, constantValue := 0 }, { name := "id", type := (.object "java/lang/String"), accessFlags := 18, slot := 0, constantValue := 0 }, { name := "arrival", type := .long, accessFlags := 18, slot := 1, constantValue := 0 }, { name := "departure", type := .long, accessFlags := 18, slot := 2, constantValue := 0 }, { name := "departureKnown", type := .boolean, accessFlags := 18, slot := 3, constantValue := 0 }, { name := "sizes", type := (.array .long), accessFlags := 18, slot := 4, constantValue := 0 }]
  methods := #[k4m0, k4m1, k4m2]
  instanceTypes := #[(.object "java/lang/String"), .long, .long, .boolean, (.array .long)]
  staticTypes := #[.long, (.object "java/lang/String")]
  resolved := Array.replicate 127 none
  statics := none }

def pool5 : Array CpInfo := pool [(1, .class_ 2), (0, u "java/io/Serializable"), (0, .class_ 4), (0, u "java/lang/Object")] 2

/-- java/io/Serializable -/
def k5 : Class := { plain "java/io/Serializable" (some 0) with
  accessFlags := 1537
  interfaces := #[]
  cf := some (fileOf pool5 1 #[] #[] 1537 3 #[] #[])
  fields := #[]
  methods := #[]
  instanceTypes := #[]
  staticTypes := #[]
  resolved := Array.replicate 7 none
  statics := none }

def pool6 : Array CpInfo := pool [(1, .class_ 2), (0, u "java/lang/Comparable"), (0, .class_ 4), (0, u "java/lang/Object")] 7

/-- java/lang/Comparable -/
def k6 : Class := { plain "java/lang/Comparable" (some 0) with
  accessFlags := 1537
  interfaces := #[]
  cf := some (fileOf pool6 1 #[] #[] 1537 3 #[] #[])
  fields := #[]
  methods := #[]
  instanceTypes := #[]
  staticTypes := #[]
  resolved := Array.replicate 12 none
  statics := none }

def pool7 : Array CpInfo := pool [(2, .class_ 4), (1, u "java/lang/CharSequence"), (42, .class_ 48), (0, u "java/lang/CharSequence$1CodePointIterator"), (10, .class_ 60), (0, u "java/lang/CharSequence$1CharIterator"), (5, .class_ 67), (0, u "java/lang/Object")] 63

/-- java/lang/CharSequence -/
def k7 : Class := { plain "java/lang/CharSequence" (some 0) with
  accessFlags := 1537
  interfaces := #[]
  cf := some (fileOf pool7 2 #[.nestMembers #[47, 59]] #[] 1537 66 #[] #[])
  fields := #[]
  methods := #[]
  instanceTypes := #[]
  staticTypes := #[]
  resolved := Array.replicate 131 none
  statics := none }

def pool8 : Array CpInfo := pool [(1, .class_ 2), (0, u "java/lang/constant/Constable"), (0, .class_ 4), (0, u "java/lang/Object")] 6

/-- java/lang/constant/Constable -/
def k8 : Class := { plain "java/lang/constant/Constable" (some 0) with
  accessFlags := 1537
  interfaces := #[]
  cf := some (fileOf pool8 1 #[] #[] 1537 3 #[] #[])
  fields := #[]
  methods := #[]
  instanceTypes := #[]
  staticTypes := #[]
  resolved := Array.replicate 11 none
  statics := none }

def pool9 : Array CpInfo := pool [(1, .class_ 2), (0, u "java/lang/constant/ConstantDesc"), (0, .class_ 4), (0, u "java/lang/Object")] 32

/-- java/lang/constant/ConstantDesc -/
def k9 : Class := { plain "java/lang/constant/ConstantDesc" (some 0) with
  accessFlags := 1537
  interfaces := #[]
  cf := some (fileOf pool9 1 #[] #[] 1537 3 #[] #[])
  fields := #[]
  methods := #[]
  instanceTypes := #[]
  staticTypes := #[]
  resolved := Array.replicate 37 none
  statics := none }

def pool10 : Array CpInfo := pool [(2, .class_ 4), (1, u "java/lang/Object"), (0, u "<init>"), (0, u "()V"), (3, .class_ 12), (1, u "java/lang/String"), (0, u "value"), (0, u "[B"), (2, u "coder"), (0, u "B"), (2, u "hash"), (0, u "I"), (2, u "hashIsZero"), (0, u "Z"), (13, u "COMPACT_STRINGS"), (534, .class_ 576), (0, u "java/lang/CharSequence"), (22, u "CASE_INSENSITIVE_ORDER"), (0, u "Ljava/util/Comparator;"), (500, u "serialPersistentFields"), (0, u "[Ljava/io/ObjectStreamField;"), (0, .class_ 1104), (0, u "java/lang/String$CaseInsensitiveComparator"), (1, .class_ 1107), (0, u "java/io/Serializable"), (0, .class_ 1109), (0, u "java/lang/Comparable"), (0, .class_ 1111), (0, u "java/lang/constant/Constable"), (0, .class_ 1113), (0, u "java/lang/constant/ConstantDesc"), (2, u "serialVersionUID"), (0, u "J"), (3, u "REPL"), (0, u "C"), (2, u "LATIN1"), (1, u "UTF16")] 323

def k10m0 : Method := { name := "<init>", desc := "()V", sig := { parameters := [], returnType := none }, accessFlags := 1, code := none }
/-- java/lang/String -/
def k10 : Class := { plain "java/lang/String" (some 0) with
  accessFlags := 49
  interfaces := #[5, 6, 7, 8, 9]
  cf := some (fileOf pool10 10 #[.nestMembers #[1103]] #[{ accessFlags := 1, nameIndex := 5, descriptorIndex := 6, attributes := #[] }] 49 2 #[1106, 1108, 575, 1110, 1112] #[{ accessFlags := 18, nameIndex := 13, descriptorIndex := 14, attributes := #[] }, { accessFlags := 18, nameIndex := 17, descriptorIndex := 18, attributes := #[] }, { accessFlags := 2, nameIndex := 21, descriptorIndex := 22, attributes := #[] }, { accessFlags := 2, nameIndex := 25, descriptorIndex := 26, attributes := #[] }, { accessFlags := 26, nameIndex := 1116, descriptorIndex := 1117, attributes := #[] }, { accessFlags := 24, nameIndex := 40, descriptorIndex := 26, attributes := #[] }, { accessFlags := 26, nameIndex := 1101, descriptorIndex := 1102, attributes := #[] }, { accessFlags := 26, nameIndex := 1121, descriptorIndex := 1122, attributes := #[] }, { accessFlags := 25, nameIndex := 599, descriptorIndex := 600, attributes := #[] }, { accessFlags := 24, nameIndex := 1125, descriptorIndex := 18, attributes := #[] }, { accessFlags := 24, nameIndex := 1127, descriptorIndex := 18, attributes := #[] }])
  fields := #[{ name := "value", type := (.array .byte), accessFlags := 18, slot := 0, constantValue := 0 }, { name := "coder", type := .byte, accessFlags := 18, slot := 1, constantValue := 0 }, { name := "hash", type := .int, accessFlags := 2, slot := 2, constantValue := 0 }, { name := "hashIsZero", type := .boolean, accessFlags := 2, slot := 3, constantValue := 0 }, { name := "serialVersionUID", type := .long, accessFlags := 26, slot := 0, constantValue := 0 }, { name := "COMPACT_STRINGS", type := .boolean, accessFlags := 24, slot := 1, constantValue := 0 }, { name := "serialPersistentFields", type := (.array (.object "java/io/ObjectStreamField")), accessFlags := 26, slot := 2, constantValue := 0 }, { name := "REPL", type := .char, accessFlags := 26, slot := 3, constantValue := 0 }, { name := "CASE_INSENSITIVE_ORDER", type := (.object "java/util/Comparator"), accessFlags := 25, slot := 4, constantValue := 0 }, { name := "LATIN1", type := .byte, accessFlags := 24, slot := 5, constantValue := 0 }, { name := "UTF16", type := .byte, accessFlags := 24, slot := 6, constantValue := 0 }]
  methods := #[k10m0]
  instanceTypes := #[(.array .byte), .byte, .int, .boolean]
  staticTypes := #[.long, .boolean, (.array (.object "java/io/ObjectStreamField")), .char, (.object "java/util/Comparator"), .byte, .byte]
  resolved := Array.replicate 1451 none
  statics := none }

/-- the primitive byte -/
def k11 : Class := { plain "byte" none with kind := .primitive 'B', accessFlags := 0x411 }
/-- [B -/
def k12 : Class := { plain "[B" (some 0) with kind := .array 11 .byte, interfaces := #[3, 5], accessFlags := 1041 }

/-- the primitive int -/
def k13 : Class := { plain "int" none with kind := .primitive 'I', accessFlags := 0x411 }
/-- [I -/
def k14 : Class := { plain "[I" (some 0) with kind := .array 13 .int, interfaces := #[3, 5], accessFlags := 1041 }

/-- the primitive long -/
def k15 : Class := { plain "long" none with kind := .primitive 'J', accessFlags := 0x411 }
/-- [J -/
def k16 : Class := { plain "[J" (some 0) with kind := .array 15 .long, interfaces := #[3, 5], accessFlags := 1041 }

def heap : Heap := #[]
def classes : Array Class := #[k0, k1, k2, k3, k4, k5, k6, k7, k8, k9, k10, k11, k12, k13, k14, k15, k16]
def interned : List (Array UInt16 × Addr) := []
def slotsUsed : Nat := 0
def theMethod : MethodId := ⟨1, 1⟩
def args0 : Array Value := #[.long 5, .long 6, .long 7, .long 8]
def aboutOver (below : List Frame) : State where
  vm := { classes := classes, interned := interned.toArray }
  heap := heap
  slotsUsed := slotsUsed
  threads := #[{ frames := .invoking theMethod args0 :: below }]
def below0 : List Frame := [.native { method := ⟨0, 0⟩, args := #[] }]
def about1 : State := aboutOver below0
def p0 : Program := .bare "" "" ""
def e0 : Env := launch0.env 0 0 0
theorem w_frames : about1.frames = Frame.invoking theMethod args0 :: below0 := rfl
set_option maxRecDepth 65536 in
theorem w_args : argsFit about1.vm theMethod args0 = true := by decide +kernel
set_option maxRecDepth 65536 in
theorem w_heap : heapFits about1 = true := by decide +kernel
set_option maxRecDepth 65536 in
theorem w_runnable : about1.curStatus? = some .runnable := by decide +kernel
set_option maxRecDepth 65536 in
theorem w_alone : about1.alone = true := by decide +kernel
set_option maxRecDepth 65536 in
theorem w_named : about1.methodNamed? x = some theMethod := by decide +kernel
set_option maxRecDepth 65536 in
theorem w_hears : about1.hears theMethod below0 = true := by decide +kernel
set_option maxRecDepth 65536 in
theorem w_ripe : about1.ripe theMethod args0 below0 = true := by decide +kernel
theorem w_running : about1.status = .running := rfl
set_option maxRecDepth 65536 in
theorem w_room : about1.hasRoom e0.platform room_1 = true :=
  launch0.hasRoom_least _ room_1 (by decide +kernel) (by decide +kernel) (by decide +kernel) (by decide +kernel) (by decide +kernel) (by decide +kernel)
theorem allAtoms_all (ts : List Jvm.Cond) (a : Array Jvm.Value) (st : Jvm.State) : (allAtoms ts).before a st = ts.all (fun c => c.before a st) := by
  induction ts with
  | nil => rfl
  | cons c t ih =>
    show (Jvm.Cond.and c (allAtoms t)).before a st = _
    rw [Jvm.Cond.before_and, ih, List.all_cons]
def words1 : List Jvm.Cond := Jvm.Cond.code x code maxLocals ret :: tables_1
/-- a 'code' word, met by the world's own term for the bytes: nothing is compared byte by byte -/
theorem code_word {y : MethodName} {bytes : ByteArray} {mx : Nat} {rt : Option FieldType} {a : Array Value} {s : State} {m : MethodId} {meth : Method} {c : Code} (h1 : s.methodNamed? y = some m) (h2 : s.vm.method? m = some meth) (h3 : meth.code = some c) (h4 : c.code = bytes)
    (h5 : (c.maxLocals == mx && c.exceptionTable.isEmpty && decide (c.maxStack ≤ mostOperands) && decide (meth.sig.returnType = rt) && !meth.locks && decide (parseMethodDescriptor y.desc = some meth.sig)) = true) : (Jvm.Cond.code y bytes mx rt).before a s = true := by
  simp only [Bool.and_eq_true, beq_iff_eq, Bool.not_eq_true', decide_eq_true_eq] at h5
  obtain ⟨⟨⟨⟨⟨g1, g2⟩, g3⟩, g4⟩, g5⟩, g6⟩ := h5
  simp [Cond.before, Cond.holds, Cond.value, h1, h2, h3, h4, g1, g2, g3, g4, g5, g6]
def isCode : Jvm.Cond → Bool
  | .code _ _ _ _ => true
  | _ => false
theorem all_split {L : List Jvm.Cond} {P : Jvm.Cond → Bool} (h1 : L.all (fun c => isCode c || P c) = true) (h2 : ∀ c ∈ L.filter isCode, P c = true) : L.all P = true := by
  refine List.all_eq_true.mpr fun c hc => ?_
  have h := List.all_eq_true.mp h1 c hc
  rcases Bool.eq_false_or_eq_true (isCode c) with hi | hi
  · exact h2 c (List.mem_filter.mpr ⟨hc, hi⟩)
  · simpa [hi] using h
set_option maxRecDepth 65536 in
theorem w_c0 : (Jvm.Cond.code x code maxLocals ret).before args0 about1 = true := code_word (m := ⟨1, 1⟩) (meth := k1m1) (c := k1c1) (by decide +kernel) rfl rfl rfl (by decide +kernel)
set_option maxRecDepth 65536 in
theorem w_c1 : (Jvm.Cond.code ({ cls := "com/example/binlease/binlease/model/Server", name := "<init>", desc := "(I[JJ)V" } : Jvm.MethodName) prog_25_method_1_code (5 : Nat) (Option.none : Option Jvm.ClassFile.FieldType)).before args0 about1 = true := code_word (m := ⟨2, 0⟩) (meth := k2m0) (c := k2c0) (by decide +kernel) rfl rfl rfl (by decide +kernel)
set_option maxRecDepth 65536 in
theorem w_c2 : (Jvm.Cond.code ({ cls := "java/lang/Object", name := "<init>", desc := "()V" } : Jvm.MethodName) object_method_1_code (1 : Nat) (Option.none : Option Jvm.ClassFile.FieldType)).before args0 about1 = true := code_word (m := ⟨0, 0⟩) (meth := k0m0) (c := k0c0) (by decide +kernel) rfl rfl rfl (by decide +kernel)
set_option maxRecDepth 65536 in
theorem w_c3 : (Jvm.Cond.code ({ cls := "com/example/binlease/binlease/model/Server", name := "room", desc := "(I)J" } : Jvm.MethodName) prog_25_method_9_code (2 : Nat) (Option.some Jvm.ClassFile.FieldType.long)).before args0 about1 = true := code_word (m := ⟨2, 2⟩) (meth := k2m2) (c := k2c2) (by decide +kernel) rfl rfl rfl (by decide +kernel)
set_option maxRecDepth 65536 in
theorem w_c4 : (Jvm.Cond.code ({ cls := "com/example/binlease/binlease/model/Job", name := "<init>", desc := "(Ljava/lang/String;JJ[J)V" } : Jvm.MethodName) prog_24_method_2_code (7 : Nat) (Option.none : Option Jvm.ClassFile.FieldType)).before args0 about1 = true := code_word (m := ⟨4, 0⟩) (meth := k4m0) (c := k4c0) (by decide +kernel) rfl rfl rfl (by decide +kernel)
set_option maxRecDepth 65536 in
theorem w_c5 : (Jvm.Cond.code ({ cls := "com/example/binlease/binlease/model/Job", name := "<init>", desc := "(Ljava/lang/String;JJZ[J)V" } : Jvm.MethodName) prog_24_method_3_code (13 : Nat) (Option.none : Option Jvm.ClassFile.FieldType)).before args0 about1 = true := code_word (m := ⟨4, 1⟩) (meth := k4m1) (c := k4c1) (by decide +kernel) rfl rfl rfl (by decide +kernel)
set_option maxRecDepth 65536 in
theorem w_c6 : (Jvm.Cond.code ({ cls := "com/example/binlease/binlease/model/Server", name := "add", desc := "(Lcom/example/binlease/binlease/model/Job;)V" } : Jvm.MethodName) prog_25_method_11_code (3 : Nat) (Option.none : Option Jvm.ClassFile.FieldType)).before args0 about1 = true := code_word (m := ⟨2, 3⟩) (meth := k2m3) (c := k2c3) (by decide +kernel) rfl rfl rfl (by decide +kernel)
set_option maxRecDepth 65536 in
theorem w_c7 : (Jvm.Cond.code ({ cls := "com/example/binlease/binlease/model/Job", name := "size", desc := "(I)J" } : Jvm.MethodName) prog_24_method_11_code (2 : Nat) (Option.some Jvm.ClassFile.FieldType.long)).before args0 about1 = true := code_word (m := ⟨4, 2⟩) (meth := k4m2) (c := k4c2) (by decide +kernel) rfl rfl rfl (by decide +kernel)
set_option maxRecDepth 65536 in
theorem w_c8 : (Jvm.Cond.code ({ cls := "com/example/binlease/binlease/model/Server", name := "load", desc := "(I)J" } : Jvm.MethodName) prog_25_method_8_code (2 : Nat) (Option.some Jvm.ClassFile.FieldType.long)).before args0 about1 = true := code_word (m := ⟨2, 1⟩) (meth := k2m1) (c := k2c1) (by decide +kernel) rfl rfl rfl (by decide +kernel)
def codes1 : List Jvm.Cond := [Jvm.Cond.code x code maxLocals ret, Jvm.Cond.code ({ cls := "com/example/binlease/binlease/model/Server", name := "<init>", desc := "(I[JJ)V" } : Jvm.MethodName) prog_25_method_1_code (5 : Nat) (Option.none : Option Jvm.ClassFile.FieldType), Jvm.Cond.code ({ cls := "java/lang/Object", name := "<init>", desc := "()V" } : Jvm.MethodName) object_method_1_code (1 : Nat) (Option.none : Option Jvm.ClassFile.FieldType), Jvm.Cond.code ({ cls := "com/example/binlease/binlease/model/Server", name := "room", desc := "(I)J" } : Jvm.MethodName) prog_25_method_9_code (2 : Nat) (Option.some Jvm.ClassFile.FieldType.long), Jvm.Cond.code ({ cls := "com/example/binlease/binlease/model/Job", name := "<init>", desc := "(Ljava/lang/String;JJ[J)V" } : Jvm.MethodName) prog_24_method_2_code (7 : Nat) (Option.none : Option Jvm.ClassFile.FieldType), Jvm.Cond.code ({ cls := "com/example/binlease/binlease/model/Job", name := "<init>", desc := "(Ljava/lang/String;JJZ[J)V" } : Jvm.MethodName) prog_24_method_3_code (13 : Nat) (Option.none : Option Jvm.ClassFile.FieldType), Jvm.Cond.code ({ cls := "com/example/binlease/binlease/model/Server", name := "add", desc := "(Lcom/example/binlease/binlease/model/Job;)V" } : Jvm.MethodName) prog_25_method_11_code (3 : Nat) (Option.none : Option Jvm.ClassFile.FieldType), Jvm.Cond.code ({ cls := "com/example/binlease/binlease/model/Job", name := "size", desc := "(I)J" } : Jvm.MethodName) prog_24_method_11_code (2 : Nat) (Option.some Jvm.ClassFile.FieldType.long), Jvm.Cond.code ({ cls := "com/example/binlease/binlease/model/Server", name := "load", desc := "(I)J" } : Jvm.MethodName) prog_25_method_8_code (2 : Nat) (Option.some Jvm.ClassFile.FieldType.long)]
set_option maxRecDepth 65536 in
theorem codes_eq : words1.filter isCode = codes1 := rfl
theorem w_codes : ∀ c ∈ words1.filter isCode, c.before args0 about1 = true := by
  rw [codes_eq]
  intro c hc
  simp only [codes1, List.mem_cons, List.not_mem_nil, or_false] at hc
  rcases hc with rfl | rfl | rfl | rfl | rfl | rfl | rfl | rfl | rfl
  · exact w_c0
  · exact w_c1
  · exact w_c2
  · exact w_c3
  · exact w_c4
  · exact w_c5
  · exact w_c6
  · exact w_c7
  · exact w_c8
set_option maxRecDepth 65536 in
theorem w_t1 : (words1.take 24).all (fun c => isCode c || c.before args0 about1) = true := by decide +kernel
set_option maxRecDepth 65536 in
theorem w_t2 : ((words1.drop 24).take 24).all (fun c => isCode c || c.before args0 about1) = true := by decide +kernel
set_option maxRecDepth 65536 in
theorem w_t3 : (((words1.drop 24).drop 24).take 24).all (fun c => isCode c || c.before args0 about1) = true := by decide +kernel
set_option maxRecDepth 65536 in
theorem w_t4 : (((words1.drop 24).drop 24).drop 24).all (fun c => isCode c || c.before args0 about1) = true := by decide +kernel
theorem w_tables : (allAtoms (Jvm.Cond.code x code maxLocals ret :: tables_1)).before args0 about1 = true := by
  rw [allAtoms_all]
  show words1.all (fun c => c.before args0 about1) = true
  refine all_split ?_ w_codes
  rw [← List.take_append_drop 24 words1, List.all_append, w_t1, ← List.take_append_drop 24 (words1.drop 24), List.all_append, w_t2, ← List.take_append_drop 24 ((words1.drop 24).drop 24), List.all_append, w_t3, w_t4]
  rfl
set_option maxRecDepth 65536 in
theorem w_case : (Jvm.Cond.and given_1 narrow_1).before args0 about1 = true := by decide +kernel
theorem w_applies : (headSpec (Jvm.Cond.code x code maxLocals ret :: tables_1) room_1).applies x e0.platform about1 = true :=
  (Spec.applies_iff w_frames).mpr ⟨w_running, w_runnable, w_alone, w_named, w_hears, w_ripe, w_room, w_tables⟩
theorem atStart : AtStart classFile x code maxLocals ret World_1 tables_1 room_1 Calls_1 rest_1 Pre_1 launch0 p0 e0 about1 theMethod args0 below0 :=
  ⟨lists_1, trivial, launch0.admits_env _ _ _, launch0.least_env, fairChoices_fair.cas, fairChoices_fair.clock, w_frames, w_args, w_heap, w_applies, trivial, trivial, w_case⟩
end start1
theorem witness_1 : WitnessClaimed_1 := ⟨start1.p0, start1.e0, start1.about1, start1.theMethod, start1.args0, start1.below0, start1.atStart⟩
end Jvm.Pilot.@@N@@
