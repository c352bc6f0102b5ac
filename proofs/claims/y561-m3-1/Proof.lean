import JvmDerived
import JvmDerived.Pilot.@@N@@Statement
import JvmDerived.Pilot.@@N@@Code
set_option linter.unusedVariables false
set_option linter.unusedSimpArgs false
namespace Jvm.Pilot.@@N@@.W
open Jvm Jvm.ClassFile Sem Op Lib Jvm.Free Jvm.Stand Jvm.LawKit Jvm.RoadKit
/-! own kit: a body's walk in one pass, backwards from its end ('Gl': from here the body comes to its end and there P holds) -/
section Walk
variable {p : Program} {l : Launch} {e : Env} {R : Room} {s : State} {m : MethodId} {args : Array Value} {below : List Frame} {meth : Method} {c : Code} {T T' : State} {locs : List Loc} {cells slots : Nat} {P : Option Value → Heap → List Loc → Prop} {C N : Nat} {Ls : Array Slot} {S : List Value} {pc pc' pc'' : Nat} {g : JFrame}
def Gl (p : Program) (e : Env) (below : List Frame) (s : State) (P : Option Value → Heap → List Loc → Prop) (C N : Nat) (T : State) (g : JFrame) : Prop :=
  ∃ (s₂ : State) (o : Outcome), Steps p.tables e below (T.setTop g) s₂ ∧ s₂.status = .running ∧ Ended s₂ below o ∧ ∃ v L, o = .returned v ∧ P v s₂.heap L ∧ FrameEnd s o s₂ L C N
theorem s1 (g' : JFrame) (h : ∀ t, Steps p.tables e below (T.setTop g') t → Steps p.tables e below (T.setTop g) t) (K : Gl p e below s P C N T g') : Gl p e below s P C N T g := by
  obtain ⟨s₂, o, h1, h2⟩ := K; exact ⟨s₂, o, h _ h1, h2⟩
theorem s2 (g' : JFrame) (h : ∀ t, Steps p.tables e below (T'.setTop g') t → Steps p.tables e below (T.setTop g) t) (K : Gl p e below s P C N T' g') : Gl p e below s P C N T g := by
  obtain ⟨s₂, o, h1, h2⟩ := K; exact ⟨s₂, o, h _ h1, h2⟩
theorem s3 (g' : JFrame) (h : Steps p.tables e below (T.setTop g) (T'.setTop g')) (K : Gl p e below s P C N T' g') : Gl p e below s P C N T g := by
  obtain ⟨s₂, o, h1, h2⟩ := K; exact ⟨s₂, o, h.trans h1, h2⟩
theorem cast {g' : JFrame} (q : g = g') (K : Gl p e below s P C N T g') : Gl p e below s P C N T g := q ▸ K
theorem fin (X : Stand p l e R s m args below meth c T locs cells slots) {v : Option Value} (hv : meth.sig.returnType = none → v = none) (hlk : meth.locks = false)
    (hs : ∀ fs, (∀ (f : JFrame) (acts : List Action), f.method = m → f.locked = none → f.entered = [] → (doReturn e (T.setTop f) acts v).1 = T.setFrames fs) → Steps p.tables e below (T.setTop g) (T.setFrames fs))
    (hP : P v T.heap locs) (hC : cells ≤ C) (hN : slots ≤ N) : Gl p e below s P C N T g := by
  obtain ⟨fs, hr, hrun, hended, hW, hsame⟩ := X.leave hv hlk
  exact ⟨_, _, hs fs hr, hrun, hended, _, _, rfl, hP, ⟨_, rfl⟩, hW, hsame.mono hC hN⟩
theorem retZ (X : Stand p l e R s m args below meth c T locs cells slots) (hx : p.tables.exec = Jvm.exec) (hlk : meth.locks = false) {z z' : Int32} {t : FieldType} (hret : meth.sig.returnType = some t) (ht : t = .boolean ∨ t = .byte ∨ t = .char ∨ t = .short)
    (hd : decode c.code pc = .ok (.ireturn, 1)) (hz : nar t z = z') (hP : P (some (.int z')) T.heap locs) (hC : cells ≤ C) (hN : slots ≤ N) : Gl p e below s P C N T (mkF m pc Ls (.int z :: S)) :=
  fin X (v := some (.int z')) (fun h => by rw [hret] at h; cases h) hlk (fun fs hr => by subst hz; exact RoadKit.retN X hx hret ht hd hr) hP hC hN
theorem retI (X : Stand p l e R s m args below meth c T locs cells slots) (hx : p.tables.exec = Jvm.exec) (hlk : meth.locks = false) {z : Int32} (hret : meth.sig.returnType = some .int)
    (hd : decode c.code pc = .ok (.ireturn, 1)) (hP : P (some (.int z)) T.heap locs) (hC : cells ≤ C) (hN : slots ≤ N) : Gl p e below s P C N T (mkF m pc Ls (.int z :: S)) :=
  fin X (v := some (.int z)) (fun h => by rw [hret] at h; cases h) hlk (fun fs hr => retOut X hx hret rfl (Or.inl ⟨rfl, Or.inl rfl, _, rfl⟩) hd hr) hP hC hN
theorem retL (X : Stand p l e R s m args below meth c T locs cells slots) (hx : p.tables.exec = Jvm.exec) (hlk : meth.locks = false) {z : Int64} (hret : meth.sig.returnType = some .long)
    (hd : decode c.code pc = .ok (.lreturn, 1)) (hP : P (some (.long z)) T.heap locs) (hC : cells ≤ C) (hN : slots ≤ N) : Gl p e below s P C N T (mkF m pc Ls (.long z :: S)) :=
  fin X (v := some (.long z)) (fun h => by rw [hret] at h; cases h) hlk (fun fs hr => retOut X hx hret rfl (Or.inr (Or.inl ⟨rfl, rfl, _, rfl⟩)) hd hr) hP hC hN
theorem retA (X : Stand p l e R s m args below meth c T locs cells slots) (hx : p.tables.exec = Jvm.exec) (hlk : meth.locks = false) {w : Value} {t : FieldType} (hret : meth.sig.returnType = some t) (ht : t.isReference = true) (hw : w.isRef = true) (hn : narrow t w = w)
    (hd : decode c.code pc = .ok (.areturn, 1)) (hP : P (some w) T.heap locs) (hC : cells ≤ C) (hN : slots ≤ N) : Gl p e below s P C N T (mkF m pc Ls (w :: S)) :=
  fin X (v := some w) (fun h => by rw [hret] at h; cases h) hlk (fun fs hr => retOut X hx hret hn (Or.inr (Or.inr (Or.inr (Or.inr ⟨rfl, ht, hw⟩)))) hd hr) hP hC hN
theorem ret0 (X : Stand p l e R s m args below meth c T locs cells slots) (hx : p.tables.exec = Jvm.exec) (hlk : meth.locks = false) (hret : meth.sig.returnType = none)
    (hd : decode c.code pc = .ok (.return_, 1)) (hP : P none T.heap locs) (hC : cells ≤ C) (hN : slots ≤ N) : Gl p e below s P C N T (mkF m pc Ls []) :=
  fin X (v := none) (fun _ => rfl) hlk (fun fs hr => X.returnOut hx hret hd hr) hP hC hN
/-! the branches -/
def cY : ClassFile.Cond → Int32 → Int32 → Prop
  | .eq, x, y => x = y
  | .ne, x, y => ¬ x = y
  | .lt, x, y => x < y
  | .ge, x, y => ¬ x < y
  | .gt, x, y => y < x
  | .le, x, y => ¬ y < x
def cN : ClassFile.Cond → Int32 → Int32 → Prop
  | .eq, x, y => ¬ x = y
  | .ne, x, y => x = y
  | .lt, x, y => ¬ x < y
  | .ge, x, y => x < y
  | .gt, x, y => ¬ y < x
  | .le, x, y => y < x
theorem cOr (cd : ClassFile.Cond) (x y : Int32) : (cY cd x y ∧ if_icmp.holds cd x y = true) ∨ (cN cd x y ∧ if_icmp.holds cd x y = false) := by
  cases cd with
  | eq => by_cases h : x = y; exact Or.inl ⟨h, (teq h).1⟩; exact Or.inr ⟨h, (feq h).1⟩
  | ne => by_cases h : x = y; exact Or.inr ⟨h, (teq h).2⟩; exact Or.inl ⟨h, (feq h).2⟩
  | lt => by_cases h : x < y; exact Or.inl ⟨h, (tlt h).1⟩; exact Or.inr ⟨h, (flt h).1⟩
  | ge => by_cases h : x < y; exact Or.inr ⟨h, (tlt h).2.1⟩; exact Or.inl ⟨h, (flt h).2.1⟩
  | gt => by_cases h : y < x; exact Or.inl ⟨h, (tlt h).2.2.1⟩; exact Or.inr ⟨h, (flt h).2.2.1⟩
  | le => by_cases h : y < x; exact Or.inr ⟨h, (tlt h).2.2.2⟩; exact Or.inl ⟨h, (flt h).2.2.2⟩
def lY : ClassFile.Cond → Int64 → Int64 → Prop
  | .eq, x, y => x = y
  | .ne, x, y => ¬ x = y
  | .lt, x, y => x < y
  | .ge, x, y => ¬ x < y
  | .gt, x, y => y < x
  | .le, x, y => ¬ y < x
def lN : ClassFile.Cond → Int64 → Int64 → Prop
  | .eq, x, y => ¬ x = y
  | .ne, x, y => x = y
  | .lt, x, y => ¬ x < y
  | .ge, x, y => x < y
  | .gt, x, y => ¬ y < x
  | .le, x, y => y < x
theorem lYc {cd : ClassFile.Cond} {x y : Int64} (h : cY cd (lcmpW x y) 0) : lY cd x y := by
  rw [lcW] at h
  cases cd with
  | eq => exact (lc_eq x y).mp h
  | ne => exact fun q => h ((lc_eq x y).mpr q)
  | lt => exact (lc_lt x y).mp h
  | ge => exact fun q => h ((lc_lt x y).mpr q)
  | gt => exact (lc_gt x y).mp h
  | le => exact fun q => h ((lc_gt x y).mpr q)
theorem lNc {cd : ClassFile.Cond} {x y : Int64} (h : cN cd (lcmpW x y) 0) : lN cd x y := by
  rw [lcW] at h
  cases cd with
  | eq => exact fun q => h ((lc_eq x y).mpr q)
  | ne => exact (lc_eq x y).mp h
  | lt => exact fun q => h ((lc_lt x y).mpr q)
  | ge => exact (lc_lt x y).mp h
  | gt => exact fun q => h ((lc_gt x y).mpr q)
  | le => exact (lc_gt x y).mp h
theorem icmp (X : Stand p l e R s m args below meth c T locs cells slots) (hx : p.tables.exec = Jvm.exec) {cd : ClassFile.Cond} {x y : Int32} {o : Int} (hd : decode c.code pc = .ok (.if_icmp cd o, 3)) (ho : 0 ≤ (pc : Int) + o) (hp : ((pc : Int) + o).toNat = pc') (hq : pc + 3 = pc'')
    (ky : cY cd x y → Gl p e below s P C N T (mkF m pc' Ls S)) (kn : cN cd x y → Gl p e below s P C N T (mkF m pc'' Ls S)) : Gl p e below s P C N T (mkF m pc Ls (.int y :: .int x :: S)) := by
  subst hq
  rcases cOr cd x y with ⟨h1, h2⟩ | ⟨h1, h2⟩
  · exact s1 _ (fun t k => XS.icmpYes X.here hx rfl (pc0 := pc) (pc' := pc') rfl hd rfl h2 ho hp k) (ky h1)
  · exact s1 _ (fun t k => XS.icmpNo X.here hx rfl hd rfl h2 k) (kn h1)
theorem ifc (X : Stand p l e R s m args below meth c T locs cells slots) (hx : p.tables.exec = Jvm.exec) {cd : ClassFile.Cond} {x : Int32} {o : Int} (hd : decode c.code pc = .ok (.ifCond cd o, 3)) (ho : 0 ≤ (pc : Int) + o) (hp : ((pc : Int) + o).toNat = pc') (hq : pc + 3 = pc'')
    (ky : cY cd x 0 → Gl p e below s P C N T (mkF m pc' Ls S)) (kn : cN cd x 0 → Gl p e below s P C N T (mkF m pc'' Ls S)) : Gl p e below s P C N T (mkF m pc Ls (.int x :: S)) := by
  subst hq
  rcases cOr cd x 0 with ⟨h1, h2⟩ | ⟨h1, h2⟩
  · exact s1 _ (fun t k => XS.ifYes X.here hx rfl (pc0 := pc) (pc' := pc') rfl hd rfl ((if0 _ _).trans h2) ho hp k) (ky h1)
  · exact s1 _ (fun t k => XS.ifNo X.here hx rfl hd rfl ((if0 _ _).trans h2) k) (kn h1)
theorem lif (X : Stand p l e R s m args below meth c T locs cells slots) (hx : p.tables.exec = Jvm.exec) {cd : ClassFile.Cond} {x y : Int64} {o : Int} (hd1 : decode c.code pc = .ok (.lcmp, 1)) {pc1 : Nat} (h1 : pc + 1 = pc1) (hd : decode c.code pc1 = .ok (.ifCond cd o, 3)) (ho : 0 ≤ (pc1 : Int) + o) (hp : ((pc1 : Int) + o).toNat = pc') (hq : pc1 + 3 = pc'')
    (ky : lY cd x y → Gl p e below s P C N T (mkF m pc' Ls S)) (kn : lN cd x y → Gl p e below s P C N T (mkF m pc'' Ls S)) : Gl p e below s P C N T (mkF m pc Ls (.long y :: .long x :: S)) := by
  subst h1
  exact s1 (mkF m (pc + 1) Ls (.int (lcmpW x y) :: S)) (fun t k => XS.lcmp X.here hx rfl hd1 rfl k) (ifc X hx hd ho hp hq (fun h => ky (lYc h)) (fun h => kn (lNc h)))
end Walk
/-! arrays of ints and of longs, by what each place holds -/
section Arrays
variable {Z : State} {h h' : Heap} {a b : Addr} {ty : FieldType} {n : Nat} {f : Nat → Int32} {q : Nat → Int64}
def up {α : Type} (f : Nat → α) (j : Nat) (v : α) : Nat → α := fun k => if k = j then v else f k
theorem up_same {α : Type} (f : Nat → α) (j : Nat) (v : α) : up f j v j = v := if_pos rfl
theorem up_other {α : Type} (f : Nat → α) {j k : Nat} (v : α) (h : ¬ k = j) : up f j v k = f k := if_neg h
def AI (Z : State) (h : Heap) (a : Addr) (ty : FieldType) (n : Nat) (f : Nat → Int32) : Prop := ∃ c : Cell, Arr Z h a c ty ∧ c.slots.size = n ∧ ∀ k, k < n → c.slots[k]? = some (.int (f k))
def AJ (Z : State) (h : Heap) (a : Addr) (n : Nat) (f : Nat → Int64) : Prop := ∃ c : Cell, Arr Z h a c .long ∧ c.slots.size = n ∧ ∀ k, k < n → c.slots[k]? = some (.long (f k))
theorem AI.lt (F : AI Z h a ty n f) : a < h.size := by obtain ⟨c, A, -⟩ := F; exact A.lt
theorem AJ.lt (F : AJ Z h a n q) : a < h.size := by obtain ⟨c, A, -⟩ := F; exact A.lt
theorem AI.ext (F : AI Z h a ty n f) (E : Ext h h') : AI Z h' a ty n f := by obtain ⟨c, A, r⟩ := F; exact ⟨c, A.ext E, r⟩
theorem AJ.ext (F : AJ Z h a n q) (E : Ext h h') : AJ Z h' a n q := by obtain ⟨c, A, r⟩ := F; exact ⟨c, A.ext E, r⟩
theorem AI.other {sl : Nat} {v : Value} (F : AI Z h b ty n f) (W : Wr h h' a sl v) (e : b ≠ a) : AI Z h' b ty n f := by obtain ⟨c, A, r⟩ := F; exact ⟨c, A.other W e, r⟩
theorem AJ.other {sl : Nat} {v : Value} (F : AJ Z h b n q) (W : Wr h h' a sl v) (e : b ≠ a) : AJ Z h' b n q := by obtain ⟨c, A, r⟩ := F; exact ⟨c, A.other W e, r⟩
theorem AI.keep {ws : List Addr} (F : AI Z h a ty n f) (K : Keep h h' ws) (e : a ∉ ws) : AI Z h' a ty n f := by obtain ⟨c, A, r⟩ := F; exact ⟨c, ⟨K.2.1 a c A.1 e, A.2⟩, r⟩
theorem AJ.keep {ws : List Addr} (F : AJ Z h a n q) (K : Keep h h' ws) (e : a ∉ ws) : AJ Z h' a n q := by obtain ⟨c, A, r⟩ := F; exact ⟨c, ⟨K.2.1 a c A.1 e, A.2⟩, r⟩
theorem slots_set {c : Cell} {j k : Nat} {v : Value} (hj : j < c.slots.size) : (c.setSlot j v).slots[k]? = if k = j then some v else c.slots[k]? := by
  by_cases e : k = j
  · subst e; simp [Cell.setSlot, hj]
  · simp only [Cell.setSlot, if_neg e]; exact Array.getElem?_setIfInBounds_ne (Ne.symm e)
theorem AI.set {j : Nat} {v : Int32} (F : AI Z h a ty n f) (W : Wr h h' a j (.int v)) (hj : j < n) : AI Z h' a ty n (up f j v) := by
  obtain ⟨c, A, r1, r2⟩ := F
  refine ⟨_, A.same W, by rw [sz_set]; exact r1, fun k hk => ?_⟩
  rw [slots_set (by omega)]
  by_cases e : k = j
  · rw [if_pos e, e, up_same]
  · rw [if_neg e, up_other _ _ e]; exact r2 k hk
theorem AJ.set {j : Nat} {v : Int64} (F : AJ Z h a n q) (W : Wr h h' a j (.long v)) (hj : j < n) : AJ Z h' a n (up q j v) := by
  obtain ⟨c, A, r1, r2⟩ := F
  refine ⟨_, A.same W, by rw [sz_set]; exact r1, fun k hk => ?_⟩
  rw [slots_set (by omega)]
  by_cases e : k = j
  · rw [if_pos e, e, up_same]
  · rw [if_neg e, up_other _ _ e]; exact r2 k hk
theorem clamp {z : Int32} (hz : z.toInt = n) : z.toNatClampNeg = n := by simp only [Int32.toNatClampNeg]; omega
theorem AI.new {k : ClassId} {z : Int32} (A : Arr Z h a (newA k ty z) ty) (hz : z.toInt = n) (hd : defaultValue ty = .int 0) : AI Z h a ty n (fun _ => 0) :=
  ⟨_, A, by rw [sz_new]; exact clamp hz, fun i hi => by rw [← clamp hz] at hi; simp [newA, hi, hd]⟩
theorem AJ.new {k : ClassId} {z : Int32} (A : Arr Z h a (newA k .long z) .long) (hz : z.toInt = n) : AJ Z h a n (fun _ => 0) :=
  ⟨_, A, by rw [sz_new]; exact clamp hz, fun i hi => by rw [← clamp hz] at hi; simp [newA, hi, defaultValue]⟩
theorem AI.congr {f' : Nat → Int32} (F : AI Z h a ty n f) (e : ∀ k, k < n → f' k = f k) : AI Z h a ty n f' := by obtain ⟨c, A, r1, r2⟩ := F; exact ⟨c, A, r1, fun k hk => by rw [e k hk]; exact r2 k hk⟩
theorem AJ.congr {f' : Nat → Int64} (F : AJ Z h a n q) (e : ∀ k, k < n → f' k = q k) : AJ Z h a n f' := by obtain ⟨c, A, r1, r2⟩ := F; exact ⟨c, A, r1, fun k hk => by rw [e k hk]; exact r2 k hk⟩
theorem inb {j : Int32} {k sz : Nat} (hj : j.toInt = k) (hk : k < sz) : ¬ (j < 0 ∨ sz ≤ j.toNatClampNeg) := by
  rw [clamp hj, Int32.lt_iff_toInt_lt, hj, show (0 : Int32).toInt = 0 from rfl]; omega
theorem szI {z : Int32} (hz : z.toInt = n) : Nat.toInt32 n = z := by
  rw [← Int32.toInt_inj, len_toInt (by have := z.toInt_lt; omega), hz]
end Arrays
section Steps
variable {p : Program} {l : Launch} {e : Env} {R : Room} {s : State} {m : MethodId} {args : Array Value} {below : List Frame} {meth : Method} {c : Code} {T T' : State} {locs : List Loc} {cells slots : Nat} {P : Option Value → Heap → List Loc → Prop} {C N : Nat} {Ls : Array Slot} {S : List Value} {pc pc' : Nat} {Z : State} {h : Heap} {a : Addr} {n n0 : Nat} {f : Nat → Int32} {q : Nat → Int64} {a0 : Array Value} {ty : FieldType}
theorem getf (X : Stand p l e R s m args below meth c T locs cells slots) (hx : p.tables.exec = Jvm.exec) (hZ : Z.Warmed39 s.vm) {own R0 O n d host : String} {index : Nat} (hown : s.vm.findClass own = some m.cls) (w : (Cond.fieldLink own index R0 n d).before a0 Z = true ∨ (Cond.fieldLinkNest own index R0 n d host).before a0 Z = true) (via : Via Z R0 O n d)
    (eT : T.heap = h) {v : Value} (F : Fld Z h a O n d v) (hd : decode c.code pc = .ok (.getfield index, 3)) (hq : pc + 3 = pc') (K : ∀ T', Stand p l e R s m args below meth c T' locs cells slots → T'.heap = h → Gl p e below s P C N T' (mkF m pc' Ls (v :: S))) : Gl p e below s P C N T (mkF m pc Ls (.ref a :: S)) := by
  subst hq
  obtain ⟨T', X', e', st⟩ := getF X hx hZ hown w via eT F (g := mkF m pc Ls (.ref a :: S)) rfl rfl hd
  exact s2 _ st (K T' X' e')
theorem gets (X : Stand p l e R s m args below meth c T locs cells slots) (hx : p.tables.exec = Jvm.exec) (hZ : Z.Warmed39 s.vm) {own R0 O n d host : String} {index : Nat} (hown : s.vm.findClass own = some m.cls) (w : (Cond.fieldLink own index R0 n d).before a0 Z = true ∨ (Cond.fieldLinkNest own index R0 n d host).before a0 Z = true) (via : Via Z R0 O n d)
    (eT : T.heap = h) {v : Value} (F : Sta Z h O n d v) (hd : decode c.code pc = .ok (.getstatic index, 3)) (hq : pc + 3 = pc') (K : ∀ T', Stand p l e R s m args below meth c T' locs cells slots → T'.heap = h → Gl p e below s P C N T' (mkF m pc' Ls (v :: S))) : Gl p e below s P C N T (mkF m pc Ls S) := by
  subst hq
  obtain ⟨T', X', e', st⟩ := getS2 X hx hZ hown w via eT F (g := mkF m pc Ls S) rfl hd
  exact s2 _ st (K T' X' e')
theorem putf (X : Stand p l e R s m args below meth c T locs cells slots) (hx : p.tables.exec = Jvm.exec) (hZ : Z.Warmed39 s.vm) {own R0 O n d host Cl : String} {index kk : Nat} (hown : s.vm.findClass own = some m.cls) (w : (Cond.fieldLink own index R0 n d).before a0 Z = true ∨ (Cond.fieldLinkNest own index R0 n d host).before a0 Z = true) (via : Via Z R0 O n d)
    (eT : T.heap = h) {v old : Value} (F : Fld Z h a O n d old) (E : Exa Z h a Cl) (L : (Cond.lays Cl O n d).before a0 Z = true ∨ ((Cond.laysFinal Cl O n d).before a0 Z = true ∧ own = O ∧ meth.name = "<init>")) (wi : (Cond.instantiable Cl kk).before a0 Z = true)
    (hty : parseFieldDescriptor d = some ty) (hn : narrow ty v = v) (hf : fits ty v = true) (N0 : Fr n0 locs) (ga : n0 ≤ a) (hd : decode c.code pc = .ok (.putfield index, 3)) (hq : pc + 3 = pc')
    (K : ∀ T' h' L', Stand p l e R s m args below meth c T' L' cells slots → T'.heap = h' → Wr h h' a (RoadKit.slotOf Z O n d) v → Fld Z h' a O n d v → Fr n0 L' → Gl p e below s P C N T' (mkF m pc' Ls S)) : Gl p e below s P C N T (mkF m pc Ls (v :: .ref a :: S)) := by
  subst hq
  obtain ⟨T', h', X', e', W, st⟩ := putF X hx hZ hown w via eT F E L wi hty hn hf (g := mkF m pc Ls (v :: .ref a :: S)) rfl rfl hd
  exact s2 _ st (K T' h' _ X' e' W (F.same W) (Fr.snoc X' N0 ga))
theorem newo (X : Stand p l e R s m args below meth c T locs cells slots) (hx : p.tables.exec = Jvm.exec) (hZ : Z.Warmed39 s.vm) {own Cl : String} {index n : Nat} (hown : s.vm.findClass own = some m.cls) (w : (Cond.classLink own index Cl).before a0 Z = true) (wi : (Cond.instantiable Cl n).before a0 Z = true) (wz : (Cond.initialized Cl).before a0 Z = true) (eT : T.heap = h)
    (hd : decode c.code pc = .ok (.new index, 3)) (hc : cells + 1 ≤ R.cells) (hl : slots + n ≤ R.slots) (hq : pc + 3 = pc')
    (K : ∀ T' h' a, Stand p l e R s m args below meth c T' locs (cells + 1) (slots + n) → T'.heap = h' → Ext h h' → a = h.size → Exa Z h' a Cl → (∀ {O nm d : String} {ty : FieldType}, Laid Z a0 Cl O nm d → parseFieldDescriptor d = some ty → Fld Z h' a O nm d (defaultValue ty)) → Gl p e below s P C N T' (mkF m pc' Ls (.ref a :: S))) : Gl p e below s P C N T (mkF m pc Ls S) := by
  subst hq
  obtain ⟨T', h', X', e', E, A, D, -, st⟩ := newO X hx hZ hown w wi wz eT (g := mkF m pc Ls S) rfl hd hc hl
  exact s2 _ st (K T' h' _ X' e' E rfl A D)
theorem newi (X : Stand p l e R s m args below meth c T locs cells slots) (hx : p.tables.exec = Jvm.exec) (hZ : Z.Warmed39 s.vm) {aty : ArrayType} (w : (Cond.arrayClass ty).before a0 Z = true) (hty : newarray.typeOf aty = ty) (hdv : defaultValue ty = .int 0) (eT : T.heap = h) {z : Int32} (hd : decode c.code pc = .ok (.newarray aty, 2)) (hz : z.toInt = n) {cap : Nat} (hcap : n ≤ cap) (hb : cap * 8 ≤ 536870912) (hc : cells + 1 ≤ R.cells) (hl : slots + cap ≤ R.slots) (hq : pc + 2 = pc')
    (K : ∀ T' h' a, Stand p l e R s m args below meth c T' locs (cells + 1) (slots + cap) → T'.heap = h' → Ext h h' → a = h.size → AI Z h' a ty n (fun _ => 0) → Gl p e below s P C N T' (mkF m pc' Ls (.ref a :: S))) : Gl p e below s P C N T (mkF m pc Ls (.int z :: S)) := by
  subst hq hty
  obtain ⟨T', h', k, X', e', E, A, st⟩ := newP X hx hZ w eT (g := mkF m pc Ls (.int z :: S)) rfl hd rfl (by rw [Int32.lt_iff_toInt_lt, hz, show (0 : Int32).toInt = 0 from rfl]; omega) (cap := cap) (by rw [clamp hz]; exact hcap) hb hc hl
  exact s2 _ st (K T' h' _ X' e' E rfl (AI.new A hz hdv))
theorem newj (X : Stand p l e R s m args below meth c T locs cells slots) (hx : p.tables.exec = Jvm.exec) (hZ : Z.Warmed39 s.vm) (w : (Cond.arrayClass .long).before a0 Z = true) (eT : T.heap = h) {z : Int32} (hd : decode c.code pc = .ok (.newarray .long, 2)) (hz : z.toInt = n) {cap : Nat} (hcap : n ≤ cap) (hb : cap * 8 ≤ 536870912) (hc : cells + 1 ≤ R.cells) (hl : slots + cap ≤ R.slots) (hq : pc + 2 = pc')
    (K : ∀ T' h' a, Stand p l e R s m args below meth c T' locs (cells + 1) (slots + cap) → T'.heap = h' → Ext h h' → a = h.size → AJ Z h' a n (fun _ => 0) → Gl p e below s P C N T' (mkF m pc' Ls (.ref a :: S))) : Gl p e below s P C N T (mkF m pc Ls (.int z :: S)) := by
  subst hq
  obtain ⟨T', h', k, X', e', E, A, st⟩ := newP X hx hZ (aty := .long) w eT (g := mkF m pc Ls (.int z :: S)) rfl hd rfl (by rw [Int32.lt_iff_toInt_lt, hz, show (0 : Int32).toInt = 0 from rfl]; omega) (cap := cap) (by rw [clamp hz]; exact hcap) hb hc hl
  exact s2 _ st (K T' h' _ X' e' E rfl (AJ.new A hz))
theorem ldi (X : Stand p l e R s m args below meth c T locs cells slots) (hx : p.tables.exec = Jvm.exec) (hZ : Z.Warmed39 s.vm) (eT : T.heap = h) (F : AI Z h a .int n f) {j : Int32} (k : Nat) (hj : j.toInt = k) (hk : k < n) (hd : decode c.code pc = .ok (.iaload, 1)) (hq : pc + 1 = pc')
    (K : Gl p e below s P C N T (mkF m pc' Ls (.int (f k) :: S))) : Gl p e below s P C N T (mkF m pc Ls (.int j :: .ref a :: S)) := by
  subst hq
  obtain ⟨cl, A, r1, r2⟩ := F
  exact s1 _ (fun t q => X.iaload hx (v := .int (f k)) (by rw [eT]; exact A.1) (State.isArrayOf_alike hZ.alike A.2.1) A.2.2 (inb hj (by omega)) (by rw [clamp hj]; exact r2 k hk) (g := mkF m pc Ls (.int j :: .ref a :: S)) rfl rfl hd t q) K
theorem ldz (X : Stand p l e R s m args below meth c T locs cells slots) (hx : p.tables.exec = Jvm.exec) (hZ : Z.Warmed39 s.vm) (eT : T.heap = h) (F : AI Z h a .boolean n f) {j : Int32} (k : Nat) (hj : j.toInt = k) (hk : k < n) (hd : decode c.code pc = .ok (.baload, 1)) (hq : pc + 1 = pc')
    (K : Gl p e below s P C N T (mkF m pc' Ls (.int (f k) :: S))) : Gl p e below s P C N T (mkF m pc Ls (.int j :: .ref a :: S)) := by
  subst hq
  obtain ⟨cl, A, r1, r2⟩ := F
  exact s1 _ (fun t q => X.baloadBooleans hx (v := .int (f k)) (by rw [eT]; exact A.1) (State.isArrayOf_alike hZ.alike A.2.1) A.2.2 (inb hj (by omega)) (by rw [clamp hj]; exact r2 k hk) (g := mkF m pc Ls (.int j :: .ref a :: S)) rfl rfl hd t q) K
theorem ldb (X : Stand p l e R s m args below meth c T locs cells slots) (hx : p.tables.exec = Jvm.exec) (hZ : Z.Warmed39 s.vm) (eT : T.heap = h) (F : AI Z h a .byte n f) {j : Int32} (k : Nat) (hj : j.toInt = k) (hk : k < n) (hd : decode c.code pc = .ok (.baload, 1)) (hq : pc + 1 = pc')
    (K : Gl p e below s P C N T (mkF m pc' Ls (.int (f k) :: S))) : Gl p e below s P C N T (mkF m pc Ls (.int j :: .ref a :: S)) := by
  subst hq
  obtain ⟨cl, A, r1, r2⟩ := F
  exact s1 _ (fun t q => X.baloadBytes hx (v := .int (f k)) (by rw [eT]; exact A.1) (State.isArrayOf_alike hZ.alike A.2.1) A.2.2 (inb hj (by omega)) (by rw [clamp hj]; exact r2 k hk) (g := mkF m pc Ls (.int j :: .ref a :: S)) rfl rfl hd t q) K
theorem ldj (X : Stand p l e R s m args below meth c T locs cells slots) (hx : p.tables.exec = Jvm.exec) (hZ : Z.Warmed39 s.vm) (eT : T.heap = h) (F : AJ Z h a n q) {j : Int32} (k : Nat) (hj : j.toInt = k) (hk : k < n) (hd : decode c.code pc = .ok (.laload, 1)) (hq : pc + 1 = pc')
    (K : Gl p e below s P C N T (mkF m pc' Ls (.long (q k) :: S))) : Gl p e below s P C N T (mkF m pc Ls (.int j :: .ref a :: S)) := by
  subst hq
  obtain ⟨cl, A, r1, r2⟩ := F
  exact s1 _ (fun t u => X.laload hx (v := .long (q k)) (by rw [eT]; exact A.1) (State.isArrayOf_alike hZ.alike A.2.1) A.2.2 (inb hj (by omega)) (by rw [clamp hj]; exact r2 k hk) (g := mkF m pc Ls (.int j :: .ref a :: S)) rfl rfl hd t u) K
theorem alen (X : Stand p l e R s m args below meth c T locs cells slots) (hx : p.tables.exec = Jvm.exec) (hZ : Z.Warmed39 s.vm) (eT : T.heap = h) (F : AI Z h a ty n f) {z : Int32} (hz : z.toInt = n) (hd : decode c.code pc = .ok (.arraylength, 1)) (hq : pc + 1 = pc')
    (K : Gl p e below s P C N T (mkF m pc' Ls (.int z :: S))) : Gl p e below s P C N T (mkF m pc Ls (.ref a :: S)) := by
  subst hq
  obtain ⟨cl, A, r1, r2⟩ := F
  exact s1 _ (fun t u => X.arraylength hx (by rw [eT]; exact A.1) (State.isArrayOf_alike hZ.alike A.2.1) (g := mkF m pc Ls (.ref a :: S)) rfl rfl hd t (by rw [r1, szI hz]; exact u)) K
theorem alenJ (X : Stand p l e R s m args below meth c T locs cells slots) (hx : p.tables.exec = Jvm.exec) (hZ : Z.Warmed39 s.vm) (eT : T.heap = h) (F : AJ Z h a n q) {z : Int32} (hz : z.toInt = n) (hd : decode c.code pc = .ok (.arraylength, 1)) (hq : pc + 1 = pc')
    (K : Gl p e below s P C N T (mkF m pc' Ls (.int z :: S))) : Gl p e below s P C N T (mkF m pc Ls (.ref a :: S)) := by
  subst hq
  obtain ⟨cl, A, r1, r2⟩ := F
  exact s1 _ (fun t u => X.arraylength hx (by rw [eT]; exact A.1) (State.isArrayOf_alike hZ.alike A.2.1) (g := mkF m pc Ls (.ref a :: S)) rfl rfl hd t (by rw [r1, szI hz]; exact u)) K
theorem sti (X : Stand p l e R s m args below meth c T locs cells slots) (hx : p.tables.exec = Jvm.exec) (hZ : Z.Warmed39 s.vm) (eT : T.heap = h) (F : AI Z h a .int n f) {j x : Int32} (k : Nat) (hj : j.toInt = k) (hk : k < n) (N0 : Fr n0 locs) (ga : n0 ≤ a) (hd : decode c.code pc = .ok (.iastore, 1)) (hq : pc + 1 = pc')
    (K : ∀ T' h' L', Stand p l e R s m args below meth c T' L' cells slots → T'.heap = h' → Wr h h' a k (.int x) → AI Z h' a .int n (up f k x) → Fr n0 L' → Gl p e below s P C N T' (mkF m pc' Ls S)) : Gl p e below s P C N T (mkF m pc Ls (.int x :: .int j :: .ref a :: S)) := by
  subst hq
  obtain ⟨cl, A, r1, r2⟩ := F
  obtain ⟨T', h', X', e', W, st⟩ := stI X hx hZ eT A (inb hj (by omega)) (g := mkF m pc Ls (.int x :: .int j :: .ref a :: S)) rfl rfl hd
  have N1 := Fr.snoc X' N0 ga
  rw [clamp hj] at W
  exact s2 _ st (K T' h' _ X' e' W (AI.set ⟨cl, A, r1, r2⟩ W hk) N1)
theorem stz (X : Stand p l e R s m args below meth c T locs cells slots) (hx : p.tables.exec = Jvm.exec) (hZ : Z.Warmed39 s.vm) (eT : T.heap = h) (F : AI Z h a .boolean n f) {j x x' : Int32} (hn : nar .boolean x = x') (k : Nat) (hj : j.toInt = k) (hk : k < n) (N0 : Fr n0 locs) (ga : n0 ≤ a) (hd : decode c.code pc = .ok (.bastore, 1)) (hq : pc + 1 = pc')
    (K : ∀ T' h' L', Stand p l e R s m args below meth c T' L' cells slots → T'.heap = h' → Wr h h' a k (.int x') → AI Z h' a .boolean n (up f k x') → Fr n0 L' → Gl p e below s P C N T' (mkF m pc' Ls S)) : Gl p e below s P C N T (mkF m pc Ls (.int x :: .int j :: .ref a :: S)) := by
  subst hq hn
  obtain ⟨cl, A, r1, r2⟩ := F
  obtain ⟨T', h', X', e', W, st⟩ := stZ X hx hZ eT A (inb hj (by omega)) (g := mkF m pc Ls (.int x :: .int j :: .ref a :: S)) rfl rfl hd
  have N1 := Fr.snoc X' N0 ga
  rw [clamp hj] at W
  exact s2 _ st (K T' h' _ X' e' W (AI.set ⟨cl, A, r1, r2⟩ W hk) N1)
theorem stb (X : Stand p l e R s m args below meth c T locs cells slots) (hx : p.tables.exec = Jvm.exec) (hZ : Z.Warmed39 s.vm) (eT : T.heap = h) (F : AI Z h a .byte n f) {j x x' : Int32} (hn : nar .byte x = x') (k : Nat) (hj : j.toInt = k) (hk : k < n) (N0 : Fr n0 locs) (ga : n0 ≤ a) (hd : decode c.code pc = .ok (.bastore, 1)) (hq : pc + 1 = pc')
    (K : ∀ T' h' L', Stand p l e R s m args below meth c T' L' cells slots → T'.heap = h' → Wr h h' a k (.int x') → AI Z h' a .byte n (up f k x') → Fr n0 L' → Gl p e below s P C N T' (mkF m pc' Ls S)) : Gl p e below s P C N T (mkF m pc Ls (.int x :: .int j :: .ref a :: S)) := by
  subst hq hn
  obtain ⟨cl, A, r1, r2⟩ := F
  obtain ⟨T', h', X', e', W, st⟩ := stB X hx hZ eT A (inb hj (by omega)) (g := mkF m pc Ls (.int x :: .int j :: .ref a :: S)) rfl rfl hd
  have N1 := Fr.snoc X' N0 ga
  rw [clamp hj] at W
  exact s2 _ st (K T' h' _ X' e' W (AI.set ⟨cl, A, r1, r2⟩ W hk) N1)
theorem stj (X : Stand p l e R s m args below meth c T locs cells slots) (hx : p.tables.exec = Jvm.exec) (hZ : Z.Warmed39 s.vm) (eT : T.heap = h) (F : AJ Z h a n q) {j : Int32} {x : Int64} (k : Nat) (hj : j.toInt = k) (hk : k < n) (N0 : Fr n0 locs) (ga : n0 ≤ a) (hd : decode c.code pc = .ok (.lastore, 1)) (hq : pc + 1 = pc')
    (K : ∀ T' h' L', Stand p l e R s m args below meth c T' L' cells slots → T'.heap = h' → Wr h h' a k (.long x) → AJ Z h' a n (up q k x) → Fr n0 L' → Gl p e below s P C N T' (mkF m pc' Ls S)) : Gl p e below s P C N T (mkF m pc Ls (.long x :: .int j :: .ref a :: S)) := by
  subst hq
  obtain ⟨cl, A, r1, r2⟩ := F
  obtain ⟨T', h', X', e', W, st⟩ := stJ X hx hZ eT A (inb hj (by omega)) (g := mkF m pc Ls (.long x :: .int j :: .ref a :: S)) rfl rfl hd
  have N1 := Fr.snoc X' N0 ga
  rw [clamp hj] at W
  exact s2 _ st (K T' h' _ X' e' W (AJ.set ⟨cl, A, r1, r2⟩ W hk) N1)
end Steps
end Jvm.Pilot.@@N@@.W
namespace Jvm.Pilot.@@N@@
open Jvm Jvm.ClassFile Sem Op Lib Jvm.Free Jvm.Stand Jvm.LawKit Jvm.RoadKit Bundle Jvm.Pilot.@@N@@.Jvm.D
theorem own_and63 (x : Int64) : 0 ≤ (x &&& (9223372036854775807 : Int64)).toInt := (c_andSL _ _).2.2 (by decide)
theorem own_nn (y : Int64) (h : 0 ≤ y.toInt) : 0 ≤ ((9223372036854775807 : Int64) - y).toInt := by
  have h2 := y.toInt_lt
  have e : (9223372036854775807 : Int64).toInt = 9223372036854775807 := rfl
  rw [Jvm.Free.XT.sub64 ⟨by rw [e]; omega, by rw [e]; omega⟩, e]; omega
theorem own_and32 (x : Int64) : 0 ≤ ((9223372036854775807 : Int64) - (x &&& (4294967295 : Int64))).toInt := own_nn _ ((c_andSL _ _).2.2 (by decide))
theorem own_and31 (x : Int32) : 0 ≤ (x &&& (2147483647 : Int32)).toInt := (c_andS _ _).2.2 (by decide)
theorem own_sum {a b : Int64} (ha : 0 ≤ a.toInt) (hb : 0 ≤ b.toInt) : (a + b).toInt = a.toInt + b.toInt ∨ ((a + b).toInt = a.toInt + b.toInt - 18446744073709551616 ∧ 9223372036854775808 ≤ a.toInt + b.toInt) := by
  have h1 := a.toInt_lt; have h2 := b.toInt_lt
  by_cases h : a.toInt + b.toInt < 9223372036854775808
  · exact Or.inl (Jvm.Free.XT.add64 ⟨by omega, by omega⟩)
  · right; refine ⟨?_, by omega⟩
    rw [Int64.toInt_add, Int.bmod_def]; split <;> omega
theorem own_i2l (x : Int32) : x.toInt64.toInt = x.toInt := Int32.toInt_toInt64 x
theorem pn_0 : plainName "com/example/careful_courier/carefulcourier/model/Limits" = true := by first | (simp [plainName, overriddenIn]; done) | decide +kernel
theorem ef_1 (m : MethodId) (x0 : Int32) (x1 : Int64) (x2 : Int64) : entryFrame m #[(.int x0), (.long x1), (.long x2)] 5 = mkF m 0 #[.val (.int x0), .val (.long x1), .second, .val (.long x2), .second] [] := by first | (simp [entryFrame, mkF, argsToLocals, Value.category]; done) | rfl
theorem d1_0 : decode prog_28_method_6_code 0 = .ok (.iload_n 0, 1) := by decide +kernel
theorem d1_1 : decode prog_28_method_6_code 1 = .ok (.i2l, 1) := by decide +kernel
theorem d1_2 : decode prog_28_method_6_code 2 = .ok (.lload_n 3, 1) := by decide +kernel
theorem d1_3 : decode prog_28_method_6_code 3 = .ok (.lload_n 1, 1) := by decide +kernel
theorem d1_4 : decode prog_28_method_6_code 4 = .ok (.lsub, 1) := by decide +kernel
theorem d1_5 : decode prog_28_method_6_code 5 = .ok (.lcmp, 1) := by decide +kernel
theorem d1_6 : decode prog_28_method_6_code 6 = .ok (.ifCond .gt 7, 3) := by decide +kernel
theorem d1_13 : decode prog_28_method_6_code 13 = .ok (.iconst 0, 1) := by decide +kernel
theorem d1_14 : decode prog_28_method_6_code 14 = .ok (.ireturn, 1) := by decide +kernel
theorem d1_9 : decode prog_28_method_6_code 9 = .ok (.iconst 1, 1) := by decide +kernel
theorem d1_10 : decode prog_28_method_6_code 10 = .ok (.goto 4, 3) := by decide +kernel
def Q1 (Z : State) (xlen : Int32) (xhe : Int64) (xli : Int64) (h0 : Heap) (n0 : Nat) (v : Option Value) (h : Heap) (L : List Loc) : Prop := ∃ r : Int32, v = some (.int r) ∧ Fr n0 L ∧ h = h0 ∧ ((r = 1 ∧ ¬ (xli - xhe) < xlen.toInt64) ∨ (r = 0 ∧ (xli - xhe) < xlen.toInt64))
set_option maxRecDepth 65536 in
set_option maxHeartbeats 40000000 in
theorem rm1 (l : Launch) (Z : State) (a0 : Array Value) (hw : ∀ d ∈ tables_1, d.before a0 Z = true) (ws : List Jvm.Cond) (xlen : Int32) (xhe : Int64) (xli : Int64) (h0 : Heap) (n0 : Nat) (Z0 : n0 ≤ h0.size) :
    MetFree l (⟨"com/example/careful_courier/carefulcourier/model/Limits", "fits", "(IJJ)Z"⟩ : MethodName) (head1 (Jvm.Cond.code (⟨"com/example/careful_courier/carefulcourier/model/Limits", "fits", "(IJJ)Z"⟩ : MethodName) prog_28_method_6_code 5 (some .boolean) :: ws) ({ frames := 0, cells := 0, slots := 0, locals := 0 } : Room)) (fun a U => a = #[(.int xlen), (.long xhe), (.long xli)] ∧ Z.Warmed39 U.vm ∧ U.heap = h0) (fun _ _ _ _ _ => True) (fun _ U o U' => ∃ v L, o = .returned v ∧ Q1 Z xlen xhe xli h0 n0 v U'.heap L ∧ FrameEnd U o U' L ({ frames := 0, cells := 0, slots := 0, locals := 0 } : Room).cells ({ frames := 0, cells := 0, slots := 0, locals := 0 } : Room).slots) := by
  refine MetFree.of_bodySF (plainFor_of_name pn_0) hisR ?_
  intro p e s m args below meth c s₁ Bd hml0 hP hK
  obtain ⟨rfl, hZ, hh⟩ := hP
  have hx := Bd.exec
  have hby := Bd.bytes
  have hml : c.maxLocals = 5 := hml0
  have hown : s.vm.findClass "com/example/careful_courier/carefulcourier/model/Limits" = some m.cls := findClass_of_methodNamed Bd.named
  have hnm := (name_of_methodNamed Bd.named Bd.method).1
  have hlk : meth.locks = false := BodyLoose.notSynchronized Bd
  have X0 : Stand p l e ({ frames := 0, cells := 0, slots := 0, locals := 0 } : Room) s m #[(.int xlen), (.long xhe), (.long xli)] below meth c s₁ [] 0 0 := Stand.of_body Bd
  have e0 : s₁.heap = h0 := by rw [← hh, Bd.state]; rfl
  have N0 := Fr.nil n0
  show W.Gl p e below s (Q1 Z xlen xhe xli h0 n0) ({ frames := 0, cells := 0, slots := 0, locals := 0 } : Room).cells ({ frames := 0, cells := 0, slots := 0, locals := 0 } : Room).slots s₁ (entryFrame m #[(.int xlen), (.long xhe), (.long xli)] 5)
  refine W.cast (ef_1 m xlen xhe xli) ?_
  refine W.s1 (mkF m 1 #[.val (.int xlen), .val (.long xhe), .second, .val (.long xli), .second] [(.int xlen)]) (fun _ kx_ => XS.iloadN X0.here hx rfl (hb hby d1_0) rfl kx_) ?_
  refine W.s1 (mkF m 2 #[.val (.int xlen), .val (.long xhe), .second, .val (.long xli), .second] [(.long (xlen.toInt64))]) (fun _ kx_ => XS.i2l X0.here hx rfl (hb hby d1_1) rfl kx_) ?_
  refine W.s1 (mkF m 3 #[.val (.int xlen), .val (.long xhe), .second, .val (.long xli), .second] [(.long xli), (.long (xlen.toInt64))]) (fun _ kx_ => XS.lloadN X0.here hx rfl (hb hby d1_2) rfl kx_) ?_
  refine W.s1 (mkF m 4 #[.val (.int xlen), .val (.long xhe), .second, .val (.long xli), .second] [(.long xhe), (.long xli), (.long (xlen.toInt64))]) (fun _ kx_ => XS.lloadN X0.here hx rfl (hb hby d1_3) rfl kx_) ?_
  refine W.s1 (mkF m 5 #[.val (.int xlen), .val (.long xhe), .second, .val (.long xli), .second] [(.long (xli - xhe)), (.long (xlen.toInt64))]) (fun _ kx_ => XS.lsub X0.here hx rfl (hb hby d1_4) rfl kx_) ?_
  refine W.lif X0 hx (hb hby d1_5) (pc1 := 6) rfl (hb hby d1_6) (pc' := 13) (pc'' := 9) (by decide) (by decide) rfl (fun (c6 : (xli - xhe) < (xlen.toInt64)) => ?_) (fun (c6 : ¬ (xli - xhe) < (xlen.toInt64)) => ?_)
  · refine W.s1 (mkF m 14 #[.val (.int xlen), .val (.long xhe), .second, .val (.long xli), .second] [(.int (0 : Int32))]) (fun _ kx_ => XS.iconst X0.here hx rfl (hb hby d1_13) kx_) ?_
    exact W.retZ X0 hx hlk (t := .boolean) (z' := (0 : Int32)) Bd.returns (by simp) (hb hby d1_14) rfl (by show Q1 Z xlen xhe xli h0 n0 _ s₁.heap _; rw [e0]; exact ⟨_, rfl, N0, rfl, Or.inr ⟨rfl, c6⟩⟩) (by decide) (by decide)
  · refine W.s1 (mkF m 10 #[.val (.int xlen), .val (.long xhe), .second, .val (.long xli), .second] [(.int (1 : Int32))]) (fun _ kx_ => XS.iconst X0.here hx rfl (hb hby d1_9) kx_) ?_
    refine W.s1 (mkF m 14 #[.val (.int xlen), .val (.long xhe), .second, .val (.long xli), .second] [(.int (1 : Int32))]) (fun _ kx_ => XS.goto X0.here hx rfl (pc0 := 10) (pc' := 14) rfl (hb hby d1_10) (by decide) (by decide) kx_) ?_
    exact W.retZ X0 hx hlk (t := .boolean) (z' := (1 : Int32)) Bd.returns (by simp) (hb hby d1_14) rfl (by show Q1 Z xlen xhe xli h0 n0 _ s₁.heap _; rw [e0]; exact ⟨_, rfl, N0, rfl, Or.inl ⟨rfl, c6⟩⟩) (by decide) (by decide)
theorem pn_1 : plainName "com/example/careful_courier/carefulcourier/model/LimitsFitsPinLaw" = true := by first | (simp [plainName, overriddenIn]; done) | decide +kernel
theorem ef_0 (m : MethodId) (x0 : Int32) (x1 : Int64) (x2 : Int64) (x3 : Int32) (x4 : Int32) : entryFrame m #[(.int x0), (.long x1), (.long x2), (.int x3), (.int x4)] maxLocals = mkF m 0 #[.val (.int x0), .val (.long x1), .second, .val (.long x2), .second, .val (.int x3), .val (.int x4), .unset, .unset, .unset, .unset, .unset, .unset, .unset, .unset, .unset] [] := by first | (simp [entryFrame, mkF, argsToLocals, Value.category, maxLocals]; done) | rfl
theorem pd_0 : parseMethodDescriptor "(IJJ)Z" = some ⟨[.int, .long, .long], some .boolean⟩ := by decide +kernel
def Q0 (Z : State) (x0 : Int32) (xheld : Int64) (xlimit : Int64) (xd : Int32) (xmode : Int32) (h0 : Heap) (n0 : Nat) (v : Option Value) (h : Heap) (L : List Loc) : Prop := v = some (.int 1) ∧ Fr n0 L
set_option maxRecDepth 65536 in
set_option maxHeartbeats 40000000 in
theorem rm0 (l : Launch) (Z : State) (a0 : Array Value) (hw : ∀ d ∈ tables_1, d.before a0 Z = true) (ws : List Jvm.Cond) (x0 : Int32) (xheld : Int64) (xlimit : Int64) (xd : Int32) (xmode : Int32) (h0 : Heap) (n0 : Nat) (Z0 : n0 ≤ h0.size) :
    MetFree l x (head1 (Jvm.Cond.code x code maxLocals ret :: ws) room_1) (fun a U => a = #[(.int x0), (.long xheld), (.long xlimit), (.int xd), (.int xmode)] ∧ Z.Warmed39 U.vm ∧ U.heap = h0) (fun _ _ _ _ _ => True) (fun _ U o U' => ∃ v L, o = .returned v ∧ Q0 Z x0 xheld xlimit xd xmode h0 n0 v U'.heap L ∧ FrameEnd U o U' L 0 0) := by
  refine MetFree.of_bodySF (plainFor_of_name pn_1) hisR ?_
  intro p e s m args below meth c s₁ Bd hml0 hP hK
  obtain ⟨rfl, hZ, hh⟩ := hP
  have hx := Bd.exec
  have hby := Bd.bytes
  have hml : c.maxLocals = 16 := hml0
  have hown : s.vm.findClass "com/example/careful_courier/carefulcourier/model/LimitsFitsPinLaw" = some m.cls := findClass_of_methodNamed Bd.named
  have hnm := (name_of_methodNamed Bd.named Bd.method).1
  have hlk : meth.locks = false := BodyLoose.notSynchronized Bd
  have X0 : Stand p l e room_1 s m #[(.int x0), (.long xheld), (.long xlimit), (.int xd), (.int xmode)] below meth c s₁ [] 0 0 := Stand.of_body Bd
  have e0 : s₁.heap = h0 := by rw [← hh, Bd.state]; rfl
  have N0 := Fr.nil n0
  show W.Gl p e below s (Q0 Z x0 xheld xlimit xd xmode h0 n0) 0 0 s₁ (entryFrame m #[(.int x0), (.long xheld), (.long xlimit), (.int xd), (.int xmode)] maxLocals)
  refine W.cast (ef_0 m x0 xheld xlimit xd xmode) ?_
  refine W.s1 (mkF m 1 #[.val (.int x0), .val (.long xheld), .second, .val (.long xlimit), .second, .val (.int xd), .val (.int xmode), .unset, .unset, .unset, .unset, .unset, .unset, .unset, .unset, .unset] [(.int x0)]) (fun _ kx_ => XS.iloadN X0.here hx rfl (hb hby at_0) rfl kx_) ?_
  refine W.s1 (mkF m 3 #[.val (.int x0), .val (.long xheld), .second, .val (.long xlimit), .second, .val (.int xd), .val (.int xmode), .unset, .unset, .unset, .unset, .unset, .unset, .unset, .unset, .unset] [(.int (2147483647 : Int32)), (.int x0)]) (fun _ kx_ => X0.ldcInt hx hown (mvT hZ (hw _ (List.mem_of_getElem? (i := 0) rfl))) (g := (mkF m 1 #[.val (.int x0), .val (.long xheld), .second, .val (.long xlimit), .second, .val (.int xd), .val (.int xmode), .unset, .unset, .unset, .unset, .unset, .unset, .unset, .unset, .unset] [(.int x0)])) rfl (hb hby at_1) _ kx_) ?_
  refine W.s1 (mkF m 4 #[.val (.int x0), .val (.long xheld), .second, .val (.long xlimit), .second, .val (.int xd), .val (.int xmode), .unset, .unset, .unset, .unset, .unset, .unset, .unset, .unset, .unset] [(.int (x0 &&& (2147483647 : Int32)))]) (fun _ kx_ => XS.iand X0.here hx rfl (hb hby at_3) rfl kx_) ?_
  generalize hg_xn : (x0 &&& (2147483647 : Int32)) = xn
  refine W.s1 (mkF m 6 #[.val (.int x0), .val (.long xheld), .second, .val (.long xlimit), .second, .val (.int xd), .val (.int xmode), .val (.int xn), .unset, .unset, .unset, .unset, .unset, .unset, .unset, .unset] []) (fun _ kx_ => XS.istore X0.here hx rfl (hb hby at_4) rfl (l' := #[.val (.int x0), .val (.long xheld), .second, .val (.long xlimit), .second, .val (.int xd), .val (.int xmode), .val (.int xn), .unset, .unset, .unset, .unset, .unset, .unset, .unset, .unset]) rfl kx_) ?_
  have hn0 : 0 ≤ xn.toInt := by rw [← hg_xn]; exact own_and31 x0
  have J83 : ∀ (hh lm : Int64), 0 ≤ hh.toInt → 0 ≤ lm.toInt → W.Gl p e below s (Q0 Z x0 xheld xlimit xd xmode h0 n0) 0 0 s₁ (mkF m 83 #[.val (.int x0), .val (.long xheld), .second, .val (.long xlimit), .second, .val (.int xd), .val (.int xmode), .val (.int xn), .val (.long hh), .second, .val (.long lm), .second, .unset, .unset, .unset, .unset] []) := by
    intro hh lm h1 h2
    have hA : (lm - hh).toInt = lm.toInt - hh.toInt := Jvm.Free.XT.sub64 ⟨by have := hh.toInt_lt; omega, by have := lm.toInt_lt; omega⟩
    have hB := own_i2l xn
    have hS := own_sum h1 (show 0 ≤ xn.toInt64.toInt by rw [hB]; exact hn0)
    rw [hB] at hS
    have h3 := lm.toInt_lt
    have h4 := hh.toInt_lt
    have h5 := xn.toInt_lt
    have z0 : (0 : Int64).toInt = 0 := rfl
    refine W.s1 (mkF m 85 #[.val (.int x0), .val (.long xheld), .second, .val (.long xlimit), .second, .val (.int xd), .val (.int xmode), .val (.int xn), .val (.long hh), .second, .val (.long lm), .second, .unset, .unset, .unset, .unset] [(.int xn)]) (fun _ kx_ => XS.iload X0.here hx rfl (hb hby at_83) rfl kx_) ?_
    refine W.s1 (mkF m 87 #[.val (.int x0), .val (.long xheld), .second, .val (.long xlimit), .second, .val (.int xd), .val (.int xmode), .val (.int xn), .val (.long hh), .second, .val (.long lm), .second, .unset, .unset, .unset, .unset] [(.long hh), (.int xn)]) (fun _ kx_ => XS.lload X0.here hx rfl (hb hby at_85) rfl kx_) ?_
    refine W.s1 (mkF m 89 #[.val (.int x0), .val (.long xheld), .second, .val (.long xlimit), .second, .val (.int xd), .val (.int xmode), .val (.int xn), .val (.long hh), .second, .val (.long lm), .second, .unset, .unset, .unset, .unset] [(.long lm), (.long hh), (.int xn)]) (fun _ kx_ => XS.lload X0.here hx rfl (hb hby at_87) rfl kx_) ?_
    obtain ⟨_, _, ⟨T101, L101, k101, n101⟩, -, X101, ⟨Lc101, hQ101, l101, y101, z101⟩, st101⟩ := Jvm.LawKit.callS X0 hx (y := (⟨"com/example/careful_courier/carefulcourier/model/Limits", "fits", "(IJJ)Z"⟩ : MethodName)) hown (mvT hZ (hw _ (List.mem_of_getElem? (i := 3) rfl))) (mvT hZ (hw _ (List.mem_of_getElem? (i := 4) rfl))) (mvT hZ (hw _ (List.mem_of_getElem? (i := 5) rfl))) (mvT hZ (hw _ (List.mem_of_getElem? (i := 6) rfl))) (by decide) (backOf (W := 0) (rm1 l Z a0 hw [] xn hh lm h0 n0 Z0 ) hZ (hw _ (List.mem_of_getElem? (i := 6) rfl)) (hw _ (List.mem_of_getElem? (i := 5) rfl)) (by decide) (by decide)) (g := (mkF m 89 #[.val (.int x0), .val (.long xheld), .second, .val (.long xlimit), .second, .val (.int xd), .val (.int xmode), .val (.int xn), .val (.long hh), .second, .val (.long lm), .second, .unset, .unset, .unset, .unset] [(.long lm), (.long hh), (.int xn)])) rfl (by rw [hml]; rfl) (argsL := [(.int xn), (.long hh), (.long lm)]) (rest := []) (lenOf pd_0 rfl) rfl (by show 2 * 0 + _ ≤ _; exact Nat.le_of_eq rfl) (hb hby at_89) (fun _ _ => ⟨rfl, e0, (by decide : 0 + 0 ≤ _), (by decide : 0 + 0 ≤ _)⟩)
    dsimp only [Pt.U, Pt.locs, Pt.cells, Pt.slots] at X101 l101 y101 z101 st101 hQ101
    subst l101 y101 z101
    obtain ⟨r, rfl, Nq101, eq101, hr⟩ := hQ101
    have N101 := Fr.app N0 Nq101
    refine W.s2 (mkF m 92 #[.val (.int x0), .val (.long xheld), .second, .val (.long xlimit), .second, .val (.int xd), .val (.int xmode), .val (.int xn), .val (.long hh), .second, .val (.long lm), .second, .unset, .unset, .unset, .unset] [(.int r)]) st101 ?_
    refine W.s1 (mkF m 94 #[.val (.int x0), .val (.long xheld), .second, .val (.long xlimit), .second, .val (.int xd), .val (.int xmode), .val (.int xn), .val (.long hh), .second, .val (.long lm), .second, .val (.int r), .unset, .unset, .unset] []) (fun _ kx_ => XS.istore X101.here hx rfl (hb hby at_92) rfl (l' := #[.val (.int x0), .val (.long xheld), .second, .val (.long xlimit), .second, .val (.int xd), .val (.int xmode), .val (.int xn), .val (.long hh), .second, .val (.long lm), .second, .val (.int r), .unset, .unset, .unset]) rfl kx_) ?_
    refine W.s1 (mkF m 96 #[.val (.int x0), .val (.long xheld), .second, .val (.long xlimit), .second, .val (.int xd), .val (.int xmode), .val (.int xn), .val (.long hh), .second, .val (.long lm), .second, .val (.int r), .unset, .unset, .unset] [(.long hh)]) (fun _ kx_ => XS.lload X101.here hx rfl (hb hby at_94) rfl kx_) ?_
    refine W.s1 (mkF m 98 #[.val (.int x0), .val (.long xheld), .second, .val (.long xlimit), .second, .val (.int xd), .val (.int xmode), .val (.int xn), .val (.long hh), .second, .val (.long lm), .second, .val (.int r), .unset, .unset, .unset] [(.int xn), (.long hh)]) (fun _ kx_ => XS.iload X101.here hx rfl (hb hby at_96) rfl kx_) ?_
    refine W.s1 (mkF m 99 #[.val (.int x0), .val (.long xheld), .second, .val (.long xlimit), .second, .val (.int xd), .val (.int xmode), .val (.int xn), .val (.long hh), .second, .val (.long lm), .second, .val (.int r), .unset, .unset, .unset] [(.long (xn.toInt64)), (.long hh)]) (fun _ kx_ => XS.i2l X101.here hx rfl (hb hby at_98) rfl kx_) ?_
    refine W.s1 (mkF m 100 #[.val (.int x0), .val (.long xheld), .second, .val (.long xlimit), .second, .val (.int xd), .val (.int xmode), .val (.int xn), .val (.long hh), .second, .val (.long lm), .second, .val (.int r), .unset, .unset, .unset] [(.long (hh + (xn.toInt64)))]) (fun _ kx_ => XS.ladd X101.here hx rfl (hb hby at_99) rfl kx_) ?_
    refine W.s1 (mkF m 102 #[.val (.int x0), .val (.long xheld), .second, .val (.long xlimit), .second, .val (.int xd), .val (.int xmode), .val (.int xn), .val (.long hh), .second, .val (.long lm), .second, .val (.int r), .val (.long (hh + (xn.toInt64))), .second, .unset] []) (fun _ kx_ => XS.lstore X101.here hx rfl (hb hby at_100) rfl (l' := #[.val (.int x0), .val (.long xheld), .second, .val (.long xlimit), .second, .val (.int xd), .val (.int xmode), .val (.int xn), .val (.long hh), .second, .val (.long lm), .second, .val (.int r), .val (.long (hh + (xn.toInt64))), .second, .unset]) rfl kx_) ?_
    refine W.s1 (mkF m 104 #[.val (.int x0), .val (.long xheld), .second, .val (.long xlimit), .second, .val (.int xd), .val (.int xmode), .val (.int xn), .val (.long hh), .second, .val (.long lm), .second, .val (.int r), .val (.long (hh + (xn.toInt64))), .second, .unset] [(.long (hh + (xn.toInt64)))]) (fun _ kx_ => XS.lload X101.here hx rfl (hb hby at_102) rfl kx_) ?_
    refine W.s1 (mkF m 105 #[.val (.int x0), .val (.long xheld), .second, .val (.long xlimit), .second, .val (.int xd), .val (.int xmode), .val (.int xn), .val (.long hh), .second, .val (.long lm), .second, .val (.int r), .val (.long (hh + (xn.toInt64))), .second, .unset] [(.long (0 : Int64)), (.long (hh + (xn.toInt64)))]) (fun _ kx_ => XS.lconst X101.here hx rfl (hb hby at_104) kx_) ?_
    refine W.lif X101 hx (hb hby at_105) (pc1 := 106) rfl (hb hby at_106) (pc' := 121) (pc'' := 109) (by decide) (by decide) rfl (fun (c106 : (hh + (xn.toInt64)) < (0 : Int64)) => ?_) (fun (c106 : ¬ (hh + (xn.toInt64)) < (0 : Int64)) => ?_)
    · refine W.s1 (mkF m 122 #[.val (.int x0), .val (.long xheld), .second, .val (.long xlimit), .second, .val (.int xd), .val (.int xmode), .val (.int xn), .val (.long hh), .second, .val (.long lm), .second, .val (.int r), .val (.long (hh + (xn.toInt64))), .second, .unset] [(.int (0 : Int32))]) (fun _ kx_ => XS.iconst X101.here hx rfl (hb hby at_121) kx_) ?_
      refine W.s1 (mkF m 124 #[.val (.int x0), .val (.long xheld), .second, .val (.long xlimit), .second, .val (.int xd), .val (.int xmode), .val (.int xn), .val (.long hh), .second, .val (.long lm), .second, .val (.int r), .val (.long (hh + (xn.toInt64))), .second, .val (.int (0 : Int32))] []) (fun _ kx_ => XS.istore X101.here hx rfl (hb hby at_122) rfl (l' := #[.val (.int x0), .val (.long xheld), .second, .val (.long xlimit), .second, .val (.int xd), .val (.int xmode), .val (.int xn), .val (.long hh), .second, .val (.long lm), .second, .val (.int r), .val (.long (hh + (xn.toInt64))), .second, .val (.int (0 : Int32))]) rfl kx_) ?_
      refine W.s1 (mkF m 126 #[.val (.int x0), .val (.long xheld), .second, .val (.long xlimit), .second, .val (.int xd), .val (.int xmode), .val (.int xn), .val (.long hh), .second, .val (.long lm), .second, .val (.int r), .val (.long (hh + (xn.toInt64))), .second, .val (.int (0 : Int32))] [(.int r)]) (fun _ kx_ => XS.iload X101.here hx rfl (hb hby at_124) rfl kx_) ?_
      refine W.s1 (mkF m 128 #[.val (.int x0), .val (.long xheld), .second, .val (.long xlimit), .second, .val (.int xd), .val (.int xmode), .val (.int xn), .val (.long hh), .second, .val (.long lm), .second, .val (.int r), .val (.long (hh + (xn.toInt64))), .second, .val (.int (0 : Int32))] [(.int (0 : Int32)), (.int r)]) (fun _ kx_ => XS.iload X101.here hx rfl (hb hby at_126) rfl kx_) ?_
      refine W.icmp X101 hx (hb hby at_128) (pc' := 135) (pc'' := 131) (by decide) (by decide) rfl (fun (c128 : ¬ r = (0 : Int32)) => ?_) (fun (c128 : r = (0 : Int32)) => ?_)
      · refine W.s1 (mkF m 136 #[.val (.int x0), .val (.long xheld), .second, .val (.long xlimit), .second, .val (.int xd), .val (.int xmode), .val (.int xn), .val (.long hh), .second, .val (.long lm), .second, .val (.int r), .val (.long (hh + (xn.toInt64))), .second, .val (.int (0 : Int32))] [(.int (0 : Int32))]) (fun _ kx_ => XS.iconst X101.here hx rfl (hb hby at_135) kx_) ?_
        exact W.retZ X101 hx hlk (t := .boolean) (z' := (0 : Int32)) Bd.returns (by simp) (hb hby at_136) rfl (by show Q0 Z x0 xheld xlimit xd xmode h0 n0 _ T101.heap _; rw [eq101]; exfalso; simp only [Int64.lt_iff_toInt_lt, hA, hB, z0] at hr c106; rcases hr with ⟨rfl, hr⟩ | ⟨rfl, hr⟩ <;> first | exact absurd c128 (by decide) | exact c128 rfl | omega) (by decide) (by decide)
      · refine W.s1 (mkF m 132 #[.val (.int x0), .val (.long xheld), .second, .val (.long xlimit), .second, .val (.int xd), .val (.int xmode), .val (.int xn), .val (.long hh), .second, .val (.long lm), .second, .val (.int r), .val (.long (hh + (xn.toInt64))), .second, .val (.int (0 : Int32))] [(.int (1 : Int32))]) (fun _ kx_ => XS.iconst X101.here hx rfl (hb hby at_131) kx_) ?_
        refine W.s1 (mkF m 136 #[.val (.int x0), .val (.long xheld), .second, .val (.long xlimit), .second, .val (.int xd), .val (.int xmode), .val (.int xn), .val (.long hh), .second, .val (.long lm), .second, .val (.int r), .val (.long (hh + (xn.toInt64))), .second, .val (.int (0 : Int32))] [(.int (1 : Int32))]) (fun _ kx_ => XS.goto X101.here hx rfl (pc0 := 132) (pc' := 136) rfl (hb hby at_132) (by decide) (by decide) kx_) ?_
        exact W.retZ X101 hx hlk (t := .boolean) (z' := (1 : Int32)) Bd.returns (by simp) (hb hby at_136) rfl (by show Q0 Z x0 xheld xlimit xd xmode h0 n0 _ T101.heap _; rw [eq101]; exact ⟨rfl, N101⟩) (by decide) (by decide)
    · refine W.s1 (mkF m 111 #[.val (.int x0), .val (.long xheld), .second, .val (.long xlimit), .second, .val (.int xd), .val (.int xmode), .val (.int xn), .val (.long hh), .second, .val (.long lm), .second, .val (.int r), .val (.long (hh + (xn.toInt64))), .second, .unset] [(.long (hh + (xn.toInt64)))]) (fun _ kx_ => XS.lload X101.here hx rfl (hb hby at_109) rfl kx_) ?_
      refine W.s1 (mkF m 113 #[.val (.int x0), .val (.long xheld), .second, .val (.long xlimit), .second, .val (.int xd), .val (.int xmode), .val (.int xn), .val (.long hh), .second, .val (.long lm), .second, .val (.int r), .val (.long (hh + (xn.toInt64))), .second, .unset] [(.long lm), (.long (hh + (xn.toInt64)))]) (fun _ kx_ => XS.lload X101.here hx rfl (hb hby at_111) rfl kx_) ?_
      refine W.lif X101 hx (hb hby at_113) (pc1 := 114) rfl (hb hby at_114) (pc' := 121) (pc'' := 117) (by decide) (by decide) rfl (fun (c114 : lm < (hh + (xn.toInt64))) => ?_) (fun (c114 : ¬ lm < (hh + (xn.toInt64))) => ?_)
      · refine W.s1 (mkF m 122 #[.val (.int x0), .val (.long xheld), .second, .val (.long xlimit), .second, .val (.int xd), .val (.int xmode), .val (.int xn), .val (.long hh), .second, .val (.long lm), .second, .val (.int r), .val (.long (hh + (xn.toInt64))), .second, .unset] [(.int (0 : Int32))]) (fun _ kx_ => XS.iconst X101.here hx rfl (hb hby at_121) kx_) ?_
        refine W.s1 (mkF m 124 #[.val (.int x0), .val (.long xheld), .second, .val (.long xlimit), .second, .val (.int xd), .val (.int xmode), .val (.int xn), .val (.long hh), .second, .val (.long lm), .second, .val (.int r), .val (.long (hh + (xn.toInt64))), .second, .val (.int (0 : Int32))] []) (fun _ kx_ => XS.istore X101.here hx rfl (hb hby at_122) rfl (l' := #[.val (.int x0), .val (.long xheld), .second, .val (.long xlimit), .second, .val (.int xd), .val (.int xmode), .val (.int xn), .val (.long hh), .second, .val (.long lm), .second, .val (.int r), .val (.long (hh + (xn.toInt64))), .second, .val (.int (0 : Int32))]) rfl kx_) ?_
        refine W.s1 (mkF m 126 #[.val (.int x0), .val (.long xheld), .second, .val (.long xlimit), .second, .val (.int xd), .val (.int xmode), .val (.int xn), .val (.long hh), .second, .val (.long lm), .second, .val (.int r), .val (.long (hh + (xn.toInt64))), .second, .val (.int (0 : Int32))] [(.int r)]) (fun _ kx_ => XS.iload X101.here hx rfl (hb hby at_124) rfl kx_) ?_
        refine W.s1 (mkF m 128 #[.val (.int x0), .val (.long xheld), .second, .val (.long xlimit), .second, .val (.int xd), .val (.int xmode), .val (.int xn), .val (.long hh), .second, .val (.long lm), .second, .val (.int r), .val (.long (hh + (xn.toInt64))), .second, .val (.int (0 : Int32))] [(.int (0 : Int32)), (.int r)]) (fun _ kx_ => XS.iload X101.here hx rfl (hb hby at_126) rfl kx_) ?_
        refine W.icmp X101 hx (hb hby at_128) (pc' := 135) (pc'' := 131) (by decide) (by decide) rfl (fun (c128 : ¬ r = (0 : Int32)) => ?_) (fun (c128 : r = (0 : Int32)) => ?_)
        · refine W.s1 (mkF m 136 #[.val (.int x0), .val (.long xheld), .second, .val (.long xlimit), .second, .val (.int xd), .val (.int xmode), .val (.int xn), .val (.long hh), .second, .val (.long lm), .second, .val (.int r), .val (.long (hh + (xn.toInt64))), .second, .val (.int (0 : Int32))] [(.int (0 : Int32))]) (fun _ kx_ => XS.iconst X101.here hx rfl (hb hby at_135) kx_) ?_
          exact W.retZ X101 hx hlk (t := .boolean) (z' := (0 : Int32)) Bd.returns (by simp) (hb hby at_136) rfl (by show Q0 Z x0 xheld xlimit xd xmode h0 n0 _ T101.heap _; rw [eq101]; exfalso; simp only [Int64.lt_iff_toInt_lt, hA, hB, z0] at hr c106 c114; rcases hr with ⟨rfl, hr⟩ | ⟨rfl, hr⟩ <;> first | exact absurd c128 (by decide) | exact c128 rfl | omega) (by decide) (by decide)
        · refine W.s1 (mkF m 132 #[.val (.int x0), .val (.long xheld), .second, .val (.long xlimit), .second, .val (.int xd), .val (.int xmode), .val (.int xn), .val (.long hh), .second, .val (.long lm), .second, .val (.int r), .val (.long (hh + (xn.toInt64))), .second, .val (.int (0 : Int32))] [(.int (1 : Int32))]) (fun _ kx_ => XS.iconst X101.here hx rfl (hb hby at_131) kx_) ?_
          refine W.s1 (mkF m 136 #[.val (.int x0), .val (.long xheld), .second, .val (.long xlimit), .second, .val (.int xd), .val (.int xmode), .val (.int xn), .val (.long hh), .second, .val (.long lm), .second, .val (.int r), .val (.long (hh + (xn.toInt64))), .second, .val (.int (0 : Int32))] [(.int (1 : Int32))]) (fun _ kx_ => XS.goto X101.here hx rfl (pc0 := 132) (pc' := 136) rfl (hb hby at_132) (by decide) (by decide) kx_) ?_
          exact W.retZ X101 hx hlk (t := .boolean) (z' := (1 : Int32)) Bd.returns (by simp) (hb hby at_136) rfl (by show Q0 Z x0 xheld xlimit xd xmode h0 n0 _ T101.heap _; rw [eq101]; exact ⟨rfl, N101⟩) (by decide) (by decide)
      · refine W.s1 (mkF m 118 #[.val (.int x0), .val (.long xheld), .second, .val (.long xlimit), .second, .val (.int xd), .val (.int xmode), .val (.int xn), .val (.long hh), .second, .val (.long lm), .second, .val (.int r), .val (.long (hh + (xn.toInt64))), .second, .unset] [(.int (1 : Int32))]) (fun _ kx_ => XS.iconst X101.here hx rfl (hb hby at_117) kx_) ?_
        refine W.s1 (mkF m 122 #[.val (.int x0), .val (.long xheld), .second, .val (.long xlimit), .second, .val (.int xd), .val (.int xmode), .val (.int xn), .val (.long hh), .second, .val (.long lm), .second, .val (.int r), .val (.long (hh + (xn.toInt64))), .second, .unset] [(.int (1 : Int32))]) (fun _ kx_ => XS.goto X101.here hx rfl (pc0 := 118) (pc' := 122) rfl (hb hby at_118) (by decide) (by decide) kx_) ?_
        refine W.s1 (mkF m 124 #[.val (.int x0), .val (.long xheld), .second, .val (.long xlimit), .second, .val (.int xd), .val (.int xmode), .val (.int xn), .val (.long hh), .second, .val (.long lm), .second, .val (.int r), .val (.long (hh + (xn.toInt64))), .second, .val (.int (1 : Int32))] []) (fun _ kx_ => XS.istore X101.here hx rfl (hb hby at_122) rfl (l' := #[.val (.int x0), .val (.long xheld), .second, .val (.long xlimit), .second, .val (.int xd), .val (.int xmode), .val (.int xn), .val (.long hh), .second, .val (.long lm), .second, .val (.int r), .val (.long (hh + (xn.toInt64))), .second, .val (.int (1 : Int32))]) rfl kx_) ?_
        refine W.s1 (mkF m 126 #[.val (.int x0), .val (.long xheld), .second, .val (.long xlimit), .second, .val (.int xd), .val (.int xmode), .val (.int xn), .val (.long hh), .second, .val (.long lm), .second, .val (.int r), .val (.long (hh + (xn.toInt64))), .second, .val (.int (1 : Int32))] [(.int r)]) (fun _ kx_ => XS.iload X101.here hx rfl (hb hby at_124) rfl kx_) ?_
        refine W.s1 (mkF m 128 #[.val (.int x0), .val (.long xheld), .second, .val (.long xlimit), .second, .val (.int xd), .val (.int xmode), .val (.int xn), .val (.long hh), .second, .val (.long lm), .second, .val (.int r), .val (.long (hh + (xn.toInt64))), .second, .val (.int (1 : Int32))] [(.int (1 : Int32)), (.int r)]) (fun _ kx_ => XS.iload X101.here hx rfl (hb hby at_126) rfl kx_) ?_
        refine W.icmp X101 hx (hb hby at_128) (pc' := 135) (pc'' := 131) (by decide) (by decide) rfl (fun (c128 : ¬ r = (1 : Int32)) => ?_) (fun (c128 : r = (1 : Int32)) => ?_)
        · refine W.s1 (mkF m 136 #[.val (.int x0), .val (.long xheld), .second, .val (.long xlimit), .second, .val (.int xd), .val (.int xmode), .val (.int xn), .val (.long hh), .second, .val (.long lm), .second, .val (.int r), .val (.long (hh + (xn.toInt64))), .second, .val (.int (1 : Int32))] [(.int (0 : Int32))]) (fun _ kx_ => XS.iconst X101.here hx rfl (hb hby at_135) kx_) ?_
          exact W.retZ X101 hx hlk (t := .boolean) (z' := (0 : Int32)) Bd.returns (by simp) (hb hby at_136) rfl (by show Q0 Z x0 xheld xlimit xd xmode h0 n0 _ T101.heap _; rw [eq101]; exfalso; simp only [Int64.lt_iff_toInt_lt, hA, hB, z0] at hr c106 c114; rcases hr with ⟨rfl, hr⟩ | ⟨rfl, hr⟩ <;> first | exact absurd c128 (by decide) | exact c128 rfl | omega) (by decide) (by decide)
        · refine W.s1 (mkF m 132 #[.val (.int x0), .val (.long xheld), .second, .val (.long xlimit), .second, .val (.int xd), .val (.int xmode), .val (.int xn), .val (.long hh), .second, .val (.long lm), .second, .val (.int r), .val (.long (hh + (xn.toInt64))), .second, .val (.int (1 : Int32))] [(.int (1 : Int32))]) (fun _ kx_ => XS.iconst X101.here hx rfl (hb hby at_131) kx_) ?_
          refine W.s1 (mkF m 136 #[.val (.int x0), .val (.long xheld), .second, .val (.long xlimit), .second, .val (.int xd), .val (.int xmode), .val (.int xn), .val (.long hh), .second, .val (.long lm), .second, .val (.int r), .val (.long (hh + (xn.toInt64))), .second, .val (.int (1 : Int32))] [(.int (1 : Int32))]) (fun _ kx_ => XS.goto X101.here hx rfl (pc0 := 132) (pc' := 136) rfl (hb hby at_132) (by decide) (by decide) kx_) ?_
          exact W.retZ X101 hx hlk (t := .boolean) (z' := (1 : Int32)) Bd.returns (by simp) (hb hby at_136) rfl (by show Q0 Z x0 xheld xlimit xd xmode h0 n0 _ T101.heap _; rw [eq101]; exact ⟨rfl, N101⟩) (by decide) (by decide)
  refine W.s1 (mkF m 7 #[.val (.int x0), .val (.long xheld), .second, .val (.long xlimit), .second, .val (.int xd), .val (.int xmode), .val (.int xn), .unset, .unset, .unset, .unset, .unset, .unset, .unset, .unset] [(.long xheld)]) (fun _ kx_ => XS.lloadN X0.here hx rfl (hb hby at_6) rfl kx_) ?_
  refine W.s1 (mkF m 10 #[.val (.int x0), .val (.long xheld), .second, .val (.long xlimit), .second, .val (.int xd), .val (.int xmode), .val (.int xn), .unset, .unset, .unset, .unset, .unset, .unset, .unset, .unset] [(.long (9223372036854775807 : Int64)), (.long xheld)]) (fun _ kx_ => X0.ldc2Long hx hown (mvT hZ (hw _ (List.mem_of_getElem? (i := 1) rfl))) (g := (mkF m 7 #[.val (.int x0), .val (.long xheld), .second, .val (.long xlimit), .second, .val (.int xd), .val (.int xmode), .val (.int xn), .unset, .unset, .unset, .unset, .unset, .unset, .unset, .unset] [(.long xheld)])) rfl (hb hby at_7) _ kx_) ?_
  refine W.s1 (mkF m 11 #[.val (.int x0), .val (.long xheld), .second, .val (.long xlimit), .second, .val (.int xd), .val (.int xmode), .val (.int xn), .unset, .unset, .unset, .unset, .unset, .unset, .unset, .unset] [(.long (xheld &&& (9223372036854775807 : Int64)))]) (fun _ kx_ => XS.land X0.here hx rfl (hb hby at_10) rfl kx_) ?_
  refine W.s1 (mkF m 13 #[.val (.int x0), .val (.long xheld), .second, .val (.long xlimit), .second, .val (.int xd), .val (.int xmode), .val (.int xn), .val (.long (xheld &&& (9223372036854775807 : Int64))), .second, .unset, .unset, .unset, .unset, .unset, .unset] []) (fun _ kx_ => XS.lstore X0.here hx rfl (hb hby at_11) rfl (l' := #[.val (.int x0), .val (.long xheld), .second, .val (.long xlimit), .second, .val (.int xd), .val (.int xmode), .val (.int xn), .val (.long (xheld &&& (9223372036854775807 : Int64))), .second, .unset, .unset, .unset, .unset, .unset, .unset]) rfl kx_) ?_
  refine W.s1 (mkF m 15 #[.val (.int x0), .val (.long xheld), .second, .val (.long xlimit), .second, .val (.int xd), .val (.int xmode), .val (.int xn), .val (.long (xheld &&& (9223372036854775807 : Int64))), .second, .unset, .unset, .unset, .unset, .unset, .unset] [(.int xmode)]) (fun _ kx_ => XS.iload X0.here hx rfl (hb hby at_13) rfl kx_) ?_
  refine W.s1 (mkF m 16 #[.val (.int x0), .val (.long xheld), .second, .val (.long xlimit), .second, .val (.int xd), .val (.int xmode), .val (.int xn), .val (.long (xheld &&& (9223372036854775807 : Int64))), .second, .unset, .unset, .unset, .unset, .unset, .unset] [(.int (2 : Int32)), (.int xmode)]) (fun _ kx_ => XS.iconst X0.here hx rfl (hb hby at_15) kx_) ?_
  refine W.s1 (mkF m 17 #[.val (.int x0), .val (.long xheld), .second, .val (.long xlimit), .second, .val (.int xd), .val (.int xmode), .val (.int xn), .val (.long (xheld &&& (9223372036854775807 : Int64))), .second, .unset, .unset, .unset, .unset, .unset, .unset] [(.int (xmode &&& (2 : Int32)))]) (fun _ kx_ => XS.iand X0.here hx rfl (hb hby at_16) rfl kx_) ?_
  refine W.ifc X0 hx (hb hby at_17) (pc' := 31) (pc'' := 20) (by decide) (by decide) rfl (fun (c17 : (xmode &&& (2 : Int32)) = (0 : Int32)) => ?_) (fun (c17 : ¬ (xmode &&& (2 : Int32)) = (0 : Int32)) => ?_)
  · refine W.s1 (mkF m 32 #[.val (.int x0), .val (.long xheld), .second, .val (.long xlimit), .second, .val (.int xd), .val (.int xmode), .val (.int xn), .val (.long (xheld &&& (9223372036854775807 : Int64))), .second, .unset, .unset, .unset, .unset, .unset, .unset] [(.long xlimit)]) (fun _ kx_ => XS.lloadN X0.here hx rfl (hb hby at_31) rfl kx_) ?_
    refine W.s1 (mkF m 35 #[.val (.int x0), .val (.long xheld), .second, .val (.long xlimit), .second, .val (.int xd), .val (.int xmode), .val (.int xn), .val (.long (xheld &&& (9223372036854775807 : Int64))), .second, .unset, .unset, .unset, .unset, .unset, .unset] [(.long (9223372036854775807 : Int64)), (.long xlimit)]) (fun _ kx_ => X0.ldc2Long hx hown (mvT hZ (hw _ (List.mem_of_getElem? (i := 1) rfl))) (g := (mkF m 32 #[.val (.int x0), .val (.long xheld), .second, .val (.long xlimit), .second, .val (.int xd), .val (.int xmode), .val (.int xn), .val (.long (xheld &&& (9223372036854775807 : Int64))), .second, .unset, .unset, .unset, .unset, .unset, .unset] [(.long xlimit)])) rfl (hb hby at_32) _ kx_) ?_
    refine W.s1 (mkF m 36 #[.val (.int x0), .val (.long xheld), .second, .val (.long xlimit), .second, .val (.int xd), .val (.int xmode), .val (.int xn), .val (.long (xheld &&& (9223372036854775807 : Int64))), .second, .unset, .unset, .unset, .unset, .unset, .unset] [(.long (xlimit &&& (9223372036854775807 : Int64)))]) (fun _ kx_ => XS.land X0.here hx rfl (hb hby at_35) rfl kx_) ?_
    refine W.s1 (mkF m 38 #[.val (.int x0), .val (.long xheld), .second, .val (.long xlimit), .second, .val (.int xd), .val (.int xmode), .val (.int xn), .val (.long (xheld &&& (9223372036854775807 : Int64))), .second, .val (.long (xlimit &&& (9223372036854775807 : Int64))), .second, .unset, .unset, .unset, .unset] []) (fun _ kx_ => XS.lstore X0.here hx rfl (hb hby at_36) rfl (l' := #[.val (.int x0), .val (.long xheld), .second, .val (.long xlimit), .second, .val (.int xd), .val (.int xmode), .val (.int xn), .val (.long (xheld &&& (9223372036854775807 : Int64))), .second, .val (.long (xlimit &&& (9223372036854775807 : Int64))), .second, .unset, .unset, .unset, .unset]) rfl kx_) ?_
    refine W.s1 (mkF m 40 #[.val (.int x0), .val (.long xheld), .second, .val (.long xlimit), .second, .val (.int xd), .val (.int xmode), .val (.int xn), .val (.long (xheld &&& (9223372036854775807 : Int64))), .second, .val (.long (xlimit &&& (9223372036854775807 : Int64))), .second, .unset, .unset, .unset, .unset] [(.int xmode)]) (fun _ kx_ => XS.iload X0.here hx rfl (hb hby at_38) rfl kx_) ?_
    refine W.s1 (mkF m 41 #[.val (.int x0), .val (.long xheld), .second, .val (.long xlimit), .second, .val (.int xd), .val (.int xmode), .val (.int xn), .val (.long (xheld &&& (9223372036854775807 : Int64))), .second, .val (.long (xlimit &&& (9223372036854775807 : Int64))), .second, .unset, .unset, .unset, .unset] [(.int (1 : Int32)), (.int xmode)]) (fun _ kx_ => XS.iconst X0.here hx rfl (hb hby at_40) kx_) ?_
    refine W.s1 (mkF m 42 #[.val (.int x0), .val (.long xheld), .second, .val (.long xlimit), .second, .val (.int xd), .val (.int xmode), .val (.int xn), .val (.long (xheld &&& (9223372036854775807 : Int64))), .second, .val (.long (xlimit &&& (9223372036854775807 : Int64))), .second, .unset, .unset, .unset, .unset] [(.int (xmode &&& (1 : Int32)))]) (fun _ kx_ => XS.iand X0.here hx rfl (hb hby at_41) rfl kx_) ?_
    refine W.ifc X0 hx (hb hby at_42) (pc' := 65) (pc'' := 45) (by decide) (by decide) rfl (fun (c42 : (xmode &&& (1 : Int32)) = (0 : Int32)) => ?_) (fun (c42 : ¬ (xmode &&& (1 : Int32)) = (0 : Int32)) => ?_)
    · refine W.s1 (mkF m 67 #[.val (.int x0), .val (.long xheld), .second, .val (.long xlimit), .second, .val (.int xd), .val (.int xmode), .val (.int xn), .val (.long (xheld &&& (9223372036854775807 : Int64))), .second, .val (.long (xlimit &&& (9223372036854775807 : Int64))), .second, .unset, .unset, .unset, .unset] [(.int xmode)]) (fun _ kx_ => XS.iload X0.here hx rfl (hb hby at_65) rfl kx_) ?_
      refine W.s1 (mkF m 68 #[.val (.int x0), .val (.long xheld), .second, .val (.long xlimit), .second, .val (.int xd), .val (.int xmode), .val (.int xn), .val (.long (xheld &&& (9223372036854775807 : Int64))), .second, .val (.long (xlimit &&& (9223372036854775807 : Int64))), .second, .unset, .unset, .unset, .unset] [(.int (4 : Int32)), (.int xmode)]) (fun _ kx_ => XS.iconst X0.here hx rfl (hb hby at_67) kx_) ?_
      refine W.s1 (mkF m 69 #[.val (.int x0), .val (.long xheld), .second, .val (.long xlimit), .second, .val (.int xd), .val (.int xmode), .val (.int xn), .val (.long (xheld &&& (9223372036854775807 : Int64))), .second, .val (.long (xlimit &&& (9223372036854775807 : Int64))), .second, .unset, .unset, .unset, .unset] [(.int (xmode &&& (4 : Int32)))]) (fun _ kx_ => XS.iand X0.here hx rfl (hb hby at_68) rfl kx_) ?_
      refine W.ifc X0 hx (hb hby at_69) (pc' := 83) (pc'' := 72) (by decide) (by decide) rfl (fun (c69 : (xmode &&& (4 : Int32)) = (0 : Int32)) => ?_) (fun (c69 : ¬ (xmode &&& (4 : Int32)) = (0 : Int32)) => ?_)
      · exact J83 _ _ (own_and63 _) (own_and63 _)
      · refine W.s1 (mkF m 75 #[.val (.int x0), .val (.long xheld), .second, .val (.long xlimit), .second, .val (.int xd), .val (.int xmode), .val (.int xn), .val (.long (xheld &&& (9223372036854775807 : Int64))), .second, .val (.long (xlimit &&& (9223372036854775807 : Int64))), .second, .unset, .unset, .unset, .unset] [(.long (9223372036854775807 : Int64))]) (fun _ kx_ => X0.ldc2Long hx hown (mvT hZ (hw _ (List.mem_of_getElem? (i := 1) rfl))) (g := (mkF m 72 #[.val (.int x0), .val (.long xheld), .second, .val (.long xlimit), .second, .val (.int xd), .val (.int xmode), .val (.int xn), .val (.long (xheld &&& (9223372036854775807 : Int64))), .second, .val (.long (xlimit &&& (9223372036854775807 : Int64))), .second, .unset, .unset, .unset, .unset] [])) rfl (hb hby at_72) _ kx_) ?_
        refine W.s1 (mkF m 76 #[.val (.int x0), .val (.long xheld), .second, .val (.long xlimit), .second, .val (.int xd), .val (.int xmode), .val (.int xn), .val (.long (xheld &&& (9223372036854775807 : Int64))), .second, .val (.long (xlimit &&& (9223372036854775807 : Int64))), .second, .unset, .unset, .unset, .unset] [(.long xlimit), (.long (9223372036854775807 : Int64))]) (fun _ kx_ => XS.lloadN X0.here hx rfl (hb hby at_75) rfl kx_) ?_
        refine W.s1 (mkF m 79 #[.val (.int x0), .val (.long xheld), .second, .val (.long xlimit), .second, .val (.int xd), .val (.int xmode), .val (.int xn), .val (.long (xheld &&& (9223372036854775807 : Int64))), .second, .val (.long (xlimit &&& (9223372036854775807 : Int64))), .second, .unset, .unset, .unset, .unset] [(.long (4294967295 : Int64)), (.long xlimit), (.long (9223372036854775807 : Int64))]) (fun _ kx_ => X0.ldc2Long hx hown (mvT hZ (hw _ (List.mem_of_getElem? (i := 2) rfl))) (g := (mkF m 76 #[.val (.int x0), .val (.long xheld), .second, .val (.long xlimit), .second, .val (.int xd), .val (.int xmode), .val (.int xn), .val (.long (xheld &&& (9223372036854775807 : Int64))), .second, .val (.long (xlimit &&& (9223372036854775807 : Int64))), .second, .unset, .unset, .unset, .unset] [(.long xlimit), (.long (9223372036854775807 : Int64))])) rfl (hb hby at_76) _ kx_) ?_
        refine W.s1 (mkF m 80 #[.val (.int x0), .val (.long xheld), .second, .val (.long xlimit), .second, .val (.int xd), .val (.int xmode), .val (.int xn), .val (.long (xheld &&& (9223372036854775807 : Int64))), .second, .val (.long (xlimit &&& (9223372036854775807 : Int64))), .second, .unset, .unset, .unset, .unset] [(.long (xlimit &&& (4294967295 : Int64))), (.long (9223372036854775807 : Int64))]) (fun _ kx_ => XS.land X0.here hx rfl (hb hby at_79) rfl kx_) ?_
        refine W.s1 (mkF m 81 #[.val (.int x0), .val (.long xheld), .second, .val (.long xlimit), .second, .val (.int xd), .val (.int xmode), .val (.int xn), .val (.long (xheld &&& (9223372036854775807 : Int64))), .second, .val (.long (xlimit &&& (9223372036854775807 : Int64))), .second, .unset, .unset, .unset, .unset] [(.long ((9223372036854775807 : Int64) - (xlimit &&& (4294967295 : Int64))))]) (fun _ kx_ => XS.lsub X0.here hx rfl (hb hby at_80) rfl kx_) ?_
        refine W.s1 (mkF m 83 #[.val (.int x0), .val (.long xheld), .second, .val (.long xlimit), .second, .val (.int xd), .val (.int xmode), .val (.int xn), .val (.long (xheld &&& (9223372036854775807 : Int64))), .second, .val (.long ((9223372036854775807 : Int64) - (xlimit &&& (4294967295 : Int64)))), .second, .unset, .unset, .unset, .unset] []) (fun _ kx_ => XS.lstore X0.here hx rfl (hb hby at_81) rfl (l' := #[.val (.int x0), .val (.long xheld), .second, .val (.long xlimit), .second, .val (.int xd), .val (.int xmode), .val (.int xn), .val (.long (xheld &&& (9223372036854775807 : Int64))), .second, .val (.long ((9223372036854775807 : Int64) - (xlimit &&& (4294967295 : Int64)))), .second, .unset, .unset, .unset, .unset]) rfl kx_) ?_
        exact J83 _ _ (own_and63 _) (own_and32 _)
    · refine W.s1 (mkF m 47 #[.val (.int x0), .val (.long xheld), .second, .val (.long xlimit), .second, .val (.int xd), .val (.int xmode), .val (.int xn), .val (.long (xheld &&& (9223372036854775807 : Int64))), .second, .val (.long (xlimit &&& (9223372036854775807 : Int64))), .second, .unset, .unset, .unset, .unset] [(.long (xheld &&& (9223372036854775807 : Int64)))]) (fun _ kx_ => XS.lload X0.here hx rfl (hb hby at_45) rfl kx_) ?_
      refine W.s1 (mkF m 49 #[.val (.int x0), .val (.long xheld), .second, .val (.long xlimit), .second, .val (.int xd), .val (.int xmode), .val (.int xn), .val (.long (xheld &&& (9223372036854775807 : Int64))), .second, .val (.long (xlimit &&& (9223372036854775807 : Int64))), .second, .unset, .unset, .unset, .unset] [(.int xn), (.long (xheld &&& (9223372036854775807 : Int64)))]) (fun _ kx_ => XS.iload X0.here hx rfl (hb hby at_47) rfl kx_) ?_
      refine W.s1 (mkF m 50 #[.val (.int x0), .val (.long xheld), .second, .val (.long xlimit), .second, .val (.int xd), .val (.int xmode), .val (.int xn), .val (.long (xheld &&& (9223372036854775807 : Int64))), .second, .val (.long (xlimit &&& (9223372036854775807 : Int64))), .second, .unset, .unset, .unset, .unset] [(.long (xn.toInt64)), (.long (xheld &&& (9223372036854775807 : Int64)))]) (fun _ kx_ => XS.i2l X0.here hx rfl (hb hby at_49) rfl kx_) ?_
      refine W.s1 (mkF m 51 #[.val (.int x0), .val (.long xheld), .second, .val (.long xlimit), .second, .val (.int xd), .val (.int xmode), .val (.int xn), .val (.long (xheld &&& (9223372036854775807 : Int64))), .second, .val (.long (xlimit &&& (9223372036854775807 : Int64))), .second, .unset, .unset, .unset, .unset] [(.long ((xheld &&& (9223372036854775807 : Int64)) + (xn.toInt64)))]) (fun _ kx_ => XS.ladd X0.here hx rfl (hb hby at_50) rfl kx_) ?_
      refine W.s1 (mkF m 53 #[.val (.int x0), .val (.long xheld), .second, .val (.long xlimit), .second, .val (.int xd), .val (.int xmode), .val (.int xn), .val (.long (xheld &&& (9223372036854775807 : Int64))), .second, .val (.long (xlimit &&& (9223372036854775807 : Int64))), .second, .unset, .unset, .unset, .unset] [(.int xd), (.long ((xheld &&& (9223372036854775807 : Int64)) + (xn.toInt64)))]) (fun _ kx_ => XS.iload X0.here hx rfl (hb hby at_51) rfl kx_) ?_
      refine W.s1 (mkF m 54 #[.val (.int x0), .val (.long xheld), .second, .val (.long xlimit), .second, .val (.int xd), .val (.int xmode), .val (.int xn), .val (.long (xheld &&& (9223372036854775807 : Int64))), .second, .val (.long (xlimit &&& (9223372036854775807 : Int64))), .second, .unset, .unset, .unset, .unset] [(.int (3 : Int32)), (.int xd), (.long ((xheld &&& (9223372036854775807 : Int64)) + (xn.toInt64)))]) (fun _ kx_ => XS.iconst X0.here hx rfl (hb hby at_53) kx_) ?_
      refine W.s1 (mkF m 55 #[.val (.int x0), .val (.long xheld), .second, .val (.long xlimit), .second, .val (.int xd), .val (.int xmode), .val (.int xn), .val (.long (xheld &&& (9223372036854775807 : Int64))), .second, .val (.long (xlimit &&& (9223372036854775807 : Int64))), .second, .unset, .unset, .unset, .unset] [(.int (xd &&& (3 : Int32))), (.long ((xheld &&& (9223372036854775807 : Int64)) + (xn.toInt64)))]) (fun _ kx_ => XS.iand X0.here hx rfl (hb hby at_54) rfl kx_) ?_
      refine W.s1 (mkF m 56 #[.val (.int x0), .val (.long xheld), .second, .val (.long xlimit), .second, .val (.int xd), .val (.int xmode), .val (.int xn), .val (.long (xheld &&& (9223372036854775807 : Int64))), .second, .val (.long (xlimit &&& (9223372036854775807 : Int64))), .second, .unset, .unset, .unset, .unset] [(.int (1 : Int32)), (.int (xd &&& (3 : Int32))), (.long ((xheld &&& (9223372036854775807 : Int64)) + (xn.toInt64)))]) (fun _ kx_ => XS.iconst X0.here hx rfl (hb hby at_55) kx_) ?_
      refine W.s1 (mkF m 57 #[.val (.int x0), .val (.long xheld), .second, .val (.long xlimit), .second, .val (.int xd), .val (.int xmode), .val (.int xn), .val (.long (xheld &&& (9223372036854775807 : Int64))), .second, .val (.long (xlimit &&& (9223372036854775807 : Int64))), .second, .unset, .unset, .unset, .unset] [(.int ((xd &&& (3 : Int32)) - (1 : Int32))), (.long ((xheld &&& (9223372036854775807 : Int64)) + (xn.toInt64)))]) (fun _ kx_ => XS.isub X0.here hx rfl (hb hby at_56) rfl kx_) ?_
      refine W.s1 (mkF m 58 #[.val (.int x0), .val (.long xheld), .second, .val (.long xlimit), .second, .val (.int xd), .val (.int xmode), .val (.int xn), .val (.long (xheld &&& (9223372036854775807 : Int64))), .second, .val (.long (xlimit &&& (9223372036854775807 : Int64))), .second, .unset, .unset, .unset, .unset] [(.long (((xd &&& (3 : Int32)) - (1 : Int32)).toInt64)), (.long ((xheld &&& (9223372036854775807 : Int64)) + (xn.toInt64)))]) (fun _ kx_ => XS.i2l X0.here hx rfl (hb hby at_57) rfl kx_) ?_
      refine W.s1 (mkF m 59 #[.val (.int x0), .val (.long xheld), .second, .val (.long xlimit), .second, .val (.int xd), .val (.int xmode), .val (.int xn), .val (.long (xheld &&& (9223372036854775807 : Int64))), .second, .val (.long (xlimit &&& (9223372036854775807 : Int64))), .second, .unset, .unset, .unset, .unset] [(.long (((xheld &&& (9223372036854775807 : Int64)) + (xn.toInt64)) + (((xd &&& (3 : Int32)) - (1 : Int32)).toInt64)))]) (fun _ kx_ => XS.ladd X0.here hx rfl (hb hby at_58) rfl kx_) ?_
      refine W.s1 (mkF m 62 #[.val (.int x0), .val (.long xheld), .second, .val (.long xlimit), .second, .val (.int xd), .val (.int xmode), .val (.int xn), .val (.long (xheld &&& (9223372036854775807 : Int64))), .second, .val (.long (xlimit &&& (9223372036854775807 : Int64))), .second, .unset, .unset, .unset, .unset] [(.long (9223372036854775807 : Int64)), (.long (((xheld &&& (9223372036854775807 : Int64)) + (xn.toInt64)) + (((xd &&& (3 : Int32)) - (1 : Int32)).toInt64)))]) (fun _ kx_ => X0.ldc2Long hx hown (mvT hZ (hw _ (List.mem_of_getElem? (i := 1) rfl))) (g := (mkF m 59 #[.val (.int x0), .val (.long xheld), .second, .val (.long xlimit), .second, .val (.int xd), .val (.int xmode), .val (.int xn), .val (.long (xheld &&& (9223372036854775807 : Int64))), .second, .val (.long (xlimit &&& (9223372036854775807 : Int64))), .second, .unset, .unset, .unset, .unset] [(.long (((xheld &&& (9223372036854775807 : Int64)) + (xn.toInt64)) + (((xd &&& (3 : Int32)) - (1 : Int32)).toInt64)))])) rfl (hb hby at_59) _ kx_) ?_
      refine W.s1 (mkF m 63 #[.val (.int x0), .val (.long xheld), .second, .val (.long xlimit), .second, .val (.int xd), .val (.int xmode), .val (.int xn), .val (.long (xheld &&& (9223372036854775807 : Int64))), .second, .val (.long (xlimit &&& (9223372036854775807 : Int64))), .second, .unset, .unset, .unset, .unset] [(.long ((((xheld &&& (9223372036854775807 : Int64)) + (xn.toInt64)) + (((xd &&& (3 : Int32)) - (1 : Int32)).toInt64)) &&& (9223372036854775807 : Int64)))]) (fun _ kx_ => XS.land X0.here hx rfl (hb hby at_62) rfl kx_) ?_
      refine W.s1 (mkF m 65 #[.val (.int x0), .val (.long xheld), .second, .val (.long xlimit), .second, .val (.int xd), .val (.int xmode), .val (.int xn), .val (.long (xheld &&& (9223372036854775807 : Int64))), .second, .val (.long ((((xheld &&& (9223372036854775807 : Int64)) + (xn.toInt64)) + (((xd &&& (3 : Int32)) - (1 : Int32)).toInt64)) &&& (9223372036854775807 : Int64))), .second, .unset, .unset, .unset, .unset] []) (fun _ kx_ => XS.lstore X0.here hx rfl (hb hby at_63) rfl (l' := #[.val (.int x0), .val (.long xheld), .second, .val (.long xlimit), .second, .val (.int xd), .val (.int xmode), .val (.int xn), .val (.long (xheld &&& (9223372036854775807 : Int64))), .second, .val (.long ((((xheld &&& (9223372036854775807 : Int64)) + (xn.toInt64)) + (((xd &&& (3 : Int32)) - (1 : Int32)).toInt64)) &&& (9223372036854775807 : Int64))), .second, .unset, .unset, .unset, .unset]) rfl kx_) ?_
      refine W.s1 (mkF m 67 #[.val (.int x0), .val (.long xheld), .second, .val (.long xlimit), .second, .val (.int xd), .val (.int xmode), .val (.int xn), .val (.long (xheld &&& (9223372036854775807 : Int64))), .second, .val (.long ((((xheld &&& (9223372036854775807 : Int64)) + (xn.toInt64)) + (((xd &&& (3 : Int32)) - (1 : Int32)).toInt64)) &&& (9223372036854775807 : Int64))), .second, .unset, .unset, .unset, .unset] [(.int xmode)]) (fun _ kx_ => XS.iload X0.here hx rfl (hb hby at_65) rfl kx_) ?_
      refine W.s1 (mkF m 68 #[.val (.int x0), .val (.long xheld), .second, .val (.long xlimit), .second, .val (.int xd), .val (.int xmode), .val (.int xn), .val (.long (xheld &&& (9223372036854775807 : Int64))), .second, .val (.long ((((xheld &&& (9223372036854775807 : Int64)) + (xn.toInt64)) + (((xd &&& (3 : Int32)) - (1 : Int32)).toInt64)) &&& (9223372036854775807 : Int64))), .second, .unset, .unset, .unset, .unset] [(.int (4 : Int32)), (.int xmode)]) (fun _ kx_ => XS.iconst X0.here hx rfl (hb hby at_67) kx_) ?_
      refine W.s1 (mkF m 69 #[.val (.int x0), .val (.long xheld), .second, .val (.long xlimit), .second, .val (.int xd), .val (.int xmode), .val (.int xn), .val (.long (xheld &&& (9223372036854775807 : Int64))), .second, .val (.long ((((xheld &&& (9223372036854775807 : Int64)) + (xn.toInt64)) + (((xd &&& (3 : Int32)) - (1 : Int32)).toInt64)) &&& (9223372036854775807 : Int64))), .second, .unset, .unset, .unset, .unset] [(.int (xmode &&& (4 : Int32)))]) (fun _ kx_ => XS.iand X0.here hx rfl (hb hby at_68) rfl kx_) ?_
      refine W.ifc X0 hx (hb hby at_69) (pc' := 83) (pc'' := 72) (by decide) (by decide) rfl (fun (c69 : (xmode &&& (4 : Int32)) = (0 : Int32)) => ?_) (fun (c69 : ¬ (xmode &&& (4 : Int32)) = (0 : Int32)) => ?_)
      · exact J83 _ _ (own_and63 _) (own_and63 _)
      · refine W.s1 (mkF m 75 #[.val (.int x0), .val (.long xheld), .second, .val (.long xlimit), .second, .val (.int xd), .val (.int xmode), .val (.int xn), .val (.long (xheld &&& (9223372036854775807 : Int64))), .second, .val (.long ((((xheld &&& (9223372036854775807 : Int64)) + (xn.toInt64)) + (((xd &&& (3 : Int32)) - (1 : Int32)).toInt64)) &&& (9223372036854775807 : Int64))), .second, .unset, .unset, .unset, .unset] [(.long (9223372036854775807 : Int64))]) (fun _ kx_ => X0.ldc2Long hx hown (mvT hZ (hw _ (List.mem_of_getElem? (i := 1) rfl))) (g := (mkF m 72 #[.val (.int x0), .val (.long xheld), .second, .val (.long xlimit), .second, .val (.int xd), .val (.int xmode), .val (.int xn), .val (.long (xheld &&& (9223372036854775807 : Int64))), .second, .val (.long ((((xheld &&& (9223372036854775807 : Int64)) + (xn.toInt64)) + (((xd &&& (3 : Int32)) - (1 : Int32)).toInt64)) &&& (9223372036854775807 : Int64))), .second, .unset, .unset, .unset, .unset] [])) rfl (hb hby at_72) _ kx_) ?_
        refine W.s1 (mkF m 76 #[.val (.int x0), .val (.long xheld), .second, .val (.long xlimit), .second, .val (.int xd), .val (.int xmode), .val (.int xn), .val (.long (xheld &&& (9223372036854775807 : Int64))), .second, .val (.long ((((xheld &&& (9223372036854775807 : Int64)) + (xn.toInt64)) + (((xd &&& (3 : Int32)) - (1 : Int32)).toInt64)) &&& (9223372036854775807 : Int64))), .second, .unset, .unset, .unset, .unset] [(.long xlimit), (.long (9223372036854775807 : Int64))]) (fun _ kx_ => XS.lloadN X0.here hx rfl (hb hby at_75) rfl kx_) ?_
        refine W.s1 (mkF m 79 #[.val (.int x0), .val (.long xheld), .second, .val (.long xlimit), .second, .val (.int xd), .val (.int xmode), .val (.int xn), .val (.long (xheld &&& (9223372036854775807 : Int64))), .second, .val (.long ((((xheld &&& (9223372036854775807 : Int64)) + (xn.toInt64)) + (((xd &&& (3 : Int32)) - (1 : Int32)).toInt64)) &&& (9223372036854775807 : Int64))), .second, .unset, .unset, .unset, .unset] [(.long (4294967295 : Int64)), (.long xlimit), (.long (9223372036854775807 : Int64))]) (fun _ kx_ => X0.ldc2Long hx hown (mvT hZ (hw _ (List.mem_of_getElem? (i := 2) rfl))) (g := (mkF m 76 #[.val (.int x0), .val (.long xheld), .second, .val (.long xlimit), .second, .val (.int xd), .val (.int xmode), .val (.int xn), .val (.long (xheld &&& (9223372036854775807 : Int64))), .second, .val (.long ((((xheld &&& (9223372036854775807 : Int64)) + (xn.toInt64)) + (((xd &&& (3 : Int32)) - (1 : Int32)).toInt64)) &&& (9223372036854775807 : Int64))), .second, .unset, .unset, .unset, .unset] [(.long xlimit), (.long (9223372036854775807 : Int64))])) rfl (hb hby at_76) _ kx_) ?_
        refine W.s1 (mkF m 80 #[.val (.int x0), .val (.long xheld), .second, .val (.long xlimit), .second, .val (.int xd), .val (.int xmode), .val (.int xn), .val (.long (xheld &&& (9223372036854775807 : Int64))), .second, .val (.long ((((xheld &&& (9223372036854775807 : Int64)) + (xn.toInt64)) + (((xd &&& (3 : Int32)) - (1 : Int32)).toInt64)) &&& (9223372036854775807 : Int64))), .second, .unset, .unset, .unset, .unset] [(.long (xlimit &&& (4294967295 : Int64))), (.long (9223372036854775807 : Int64))]) (fun _ kx_ => XS.land X0.here hx rfl (hb hby at_79) rfl kx_) ?_
        refine W.s1 (mkF m 81 #[.val (.int x0), .val (.long xheld), .second, .val (.long xlimit), .second, .val (.int xd), .val (.int xmode), .val (.int xn), .val (.long (xheld &&& (9223372036854775807 : Int64))), .second, .val (.long ((((xheld &&& (9223372036854775807 : Int64)) + (xn.toInt64)) + (((xd &&& (3 : Int32)) - (1 : Int32)).toInt64)) &&& (9223372036854775807 : Int64))), .second, .unset, .unset, .unset, .unset] [(.long ((9223372036854775807 : Int64) - (xlimit &&& (4294967295 : Int64))))]) (fun _ kx_ => XS.lsub X0.here hx rfl (hb hby at_80) rfl kx_) ?_
        refine W.s1 (mkF m 83 #[.val (.int x0), .val (.long xheld), .second, .val (.long xlimit), .second, .val (.int xd), .val (.int xmode), .val (.int xn), .val (.long (xheld &&& (9223372036854775807 : Int64))), .second, .val (.long ((9223372036854775807 : Int64) - (xlimit &&& (4294967295 : Int64)))), .second, .unset, .unset, .unset, .unset] []) (fun _ kx_ => XS.lstore X0.here hx rfl (hb hby at_81) rfl (l' := #[.val (.int x0), .val (.long xheld), .second, .val (.long xlimit), .second, .val (.int xd), .val (.int xmode), .val (.int xn), .val (.long (xheld &&& (9223372036854775807 : Int64))), .second, .val (.long ((9223372036854775807 : Int64) - (xlimit &&& (4294967295 : Int64)))), .second, .unset, .unset, .unset, .unset]) rfl kx_) ?_
        exact J83 _ _ (own_and63 _) (own_and32 _)
  · refine W.s1 (mkF m 23 #[.val (.int x0), .val (.long xheld), .second, .val (.long xlimit), .second, .val (.int xd), .val (.int xmode), .val (.int xn), .val (.long (xheld &&& (9223372036854775807 : Int64))), .second, .unset, .unset, .unset, .unset, .unset, .unset] [(.long (9223372036854775807 : Int64))]) (fun _ kx_ => X0.ldc2Long hx hown (mvT hZ (hw _ (List.mem_of_getElem? (i := 1) rfl))) (g := (mkF m 20 #[.val (.int x0), .val (.long xheld), .second, .val (.long xlimit), .second, .val (.int xd), .val (.int xmode), .val (.int xn), .val (.long (xheld &&& (9223372036854775807 : Int64))), .second, .unset, .unset, .unset, .unset, .unset, .unset] [])) rfl (hb hby at_20) _ kx_) ?_
    refine W.s1 (mkF m 24 #[.val (.int x0), .val (.long xheld), .second, .val (.long xlimit), .second, .val (.int xd), .val (.int xmode), .val (.int xn), .val (.long (xheld &&& (9223372036854775807 : Int64))), .second, .unset, .unset, .unset, .unset, .unset, .unset] [(.long xheld), (.long (9223372036854775807 : Int64))]) (fun _ kx_ => XS.lloadN X0.here hx rfl (hb hby at_23) rfl kx_) ?_
    refine W.s1 (mkF m 27 #[.val (.int x0), .val (.long xheld), .second, .val (.long xlimit), .second, .val (.int xd), .val (.int xmode), .val (.int xn), .val (.long (xheld &&& (9223372036854775807 : Int64))), .second, .unset, .unset, .unset, .unset, .unset, .unset] [(.long (4294967295 : Int64)), (.long xheld), (.long (9223372036854775807 : Int64))]) (fun _ kx_ => X0.ldc2Long hx hown (mvT hZ (hw _ (List.mem_of_getElem? (i := 2) rfl))) (g := (mkF m 24 #[.val (.int x0), .val (.long xheld), .second, .val (.long xlimit), .second, .val (.int xd), .val (.int xmode), .val (.int xn), .val (.long (xheld &&& (9223372036854775807 : Int64))), .second, .unset, .unset, .unset, .unset, .unset, .unset] [(.long xheld), (.long (9223372036854775807 : Int64))])) rfl (hb hby at_24) _ kx_) ?_
    refine W.s1 (mkF m 28 #[.val (.int x0), .val (.long xheld), .second, .val (.long xlimit), .second, .val (.int xd), .val (.int xmode), .val (.int xn), .val (.long (xheld &&& (9223372036854775807 : Int64))), .second, .unset, .unset, .unset, .unset, .unset, .unset] [(.long (xheld &&& (4294967295 : Int64))), (.long (9223372036854775807 : Int64))]) (fun _ kx_ => XS.land X0.here hx rfl (hb hby at_27) rfl kx_) ?_
    refine W.s1 (mkF m 29 #[.val (.int x0), .val (.long xheld), .second, .val (.long xlimit), .second, .val (.int xd), .val (.int xmode), .val (.int xn), .val (.long (xheld &&& (9223372036854775807 : Int64))), .second, .unset, .unset, .unset, .unset, .unset, .unset] [(.long ((9223372036854775807 : Int64) - (xheld &&& (4294967295 : Int64))))]) (fun _ kx_ => XS.lsub X0.here hx rfl (hb hby at_28) rfl kx_) ?_
    refine W.s1 (mkF m 31 #[.val (.int x0), .val (.long xheld), .second, .val (.long xlimit), .second, .val (.int xd), .val (.int xmode), .val (.int xn), .val (.long ((9223372036854775807 : Int64) - (xheld &&& (4294967295 : Int64)))), .second, .unset, .unset, .unset, .unset, .unset, .unset] []) (fun _ kx_ => XS.lstore X0.here hx rfl (hb hby at_29) rfl (l' := #[.val (.int x0), .val (.long xheld), .second, .val (.long xlimit), .second, .val (.int xd), .val (.int xmode), .val (.int xn), .val (.long ((9223372036854775807 : Int64) - (xheld &&& (4294967295 : Int64)))), .second, .unset, .unset, .unset, .unset, .unset, .unset]) rfl kx_) ?_
    refine W.s1 (mkF m 32 #[.val (.int x0), .val (.long xheld), .second, .val (.long xlimit), .second, .val (.int xd), .val (.int xmode), .val (.int xn), .val (.long ((9223372036854775807 : Int64) - (xheld &&& (4294967295 : Int64)))), .second, .unset, .unset, .unset, .unset, .unset, .unset] [(.long xlimit)]) (fun _ kx_ => XS.lloadN X0.here hx rfl (hb hby at_31) rfl kx_) ?_
    refine W.s1 (mkF m 35 #[.val (.int x0), .val (.long xheld), .second, .val (.long xlimit), .second, .val (.int xd), .val (.int xmode), .val (.int xn), .val (.long ((9223372036854775807 : Int64) - (xheld &&& (4294967295 : Int64)))), .second, .unset, .unset, .unset, .unset, .unset, .unset] [(.long (9223372036854775807 : Int64)), (.long xlimit)]) (fun _ kx_ => X0.ldc2Long hx hown (mvT hZ (hw _ (List.mem_of_getElem? (i := 1) rfl))) (g := (mkF m 32 #[.val (.int x0), .val (.long xheld), .second, .val (.long xlimit), .second, .val (.int xd), .val (.int xmode), .val (.int xn), .val (.long ((9223372036854775807 : Int64) - (xheld &&& (4294967295 : Int64)))), .second, .unset, .unset, .unset, .unset, .unset, .unset] [(.long xlimit)])) rfl (hb hby at_32) _ kx_) ?_
    refine W.s1 (mkF m 36 #[.val (.int x0), .val (.long xheld), .second, .val (.long xlimit), .second, .val (.int xd), .val (.int xmode), .val (.int xn), .val (.long ((9223372036854775807 : Int64) - (xheld &&& (4294967295 : Int64)))), .second, .unset, .unset, .unset, .unset, .unset, .unset] [(.long (xlimit &&& (9223372036854775807 : Int64)))]) (fun _ kx_ => XS.land X0.here hx rfl (hb hby at_35) rfl kx_) ?_
    refine W.s1 (mkF m 38 #[.val (.int x0), .val (.long xheld), .second, .val (.long xlimit), .second, .val (.int xd), .val (.int xmode), .val (.int xn), .val (.long ((9223372036854775807 : Int64) - (xheld &&& (4294967295 : Int64)))), .second, .val (.long (xlimit &&& (9223372036854775807 : Int64))), .second, .unset, .unset, .unset, .unset] []) (fun _ kx_ => XS.lstore X0.here hx rfl (hb hby at_36) rfl (l' := #[.val (.int x0), .val (.long xheld), .second, .val (.long xlimit), .second, .val (.int xd), .val (.int xmode), .val (.int xn), .val (.long ((9223372036854775807 : Int64) - (xheld &&& (4294967295 : Int64)))), .second, .val (.long (xlimit &&& (9223372036854775807 : Int64))), .second, .unset, .unset, .unset, .unset]) rfl kx_) ?_
    refine W.s1 (mkF m 40 #[.val (.int x0), .val (.long xheld), .second, .val (.long xlimit), .second, .val (.int xd), .val (.int xmode), .val (.int xn), .val (.long ((9223372036854775807 : Int64) - (xheld &&& (4294967295 : Int64)))), .second, .val (.long (xlimit &&& (9223372036854775807 : Int64))), .second, .unset, .unset, .unset, .unset] [(.int xmode)]) (fun _ kx_ => XS.iload X0.here hx rfl (hb hby at_38) rfl kx_) ?_
    refine W.s1 (mkF m 41 #[.val (.int x0), .val (.long xheld), .second, .val (.long xlimit), .second, .val (.int xd), .val (.int xmode), .val (.int xn), .val (.long ((9223372036854775807 : Int64) - (xheld &&& (4294967295 : Int64)))), .second, .val (.long (xlimit &&& (9223372036854775807 : Int64))), .second, .unset, .unset, .unset, .unset] [(.int (1 : Int32)), (.int xmode)]) (fun _ kx_ => XS.iconst X0.here hx rfl (hb hby at_40) kx_) ?_
    refine W.s1 (mkF m 42 #[.val (.int x0), .val (.long xheld), .second, .val (.long xlimit), .second, .val (.int xd), .val (.int xmode), .val (.int xn), .val (.long ((9223372036854775807 : Int64) - (xheld &&& (4294967295 : Int64)))), .second, .val (.long (xlimit &&& (9223372036854775807 : Int64))), .second, .unset, .unset, .unset, .unset] [(.int (xmode &&& (1 : Int32)))]) (fun _ kx_ => XS.iand X0.here hx rfl (hb hby at_41) rfl kx_) ?_
    refine W.ifc X0 hx (hb hby at_42) (pc' := 65) (pc'' := 45) (by decide) (by decide) rfl (fun (c42 : (xmode &&& (1 : Int32)) = (0 : Int32)) => ?_) (fun (c42 : ¬ (xmode &&& (1 : Int32)) = (0 : Int32)) => ?_)
    · refine W.s1 (mkF m 67 #[.val (.int x0), .val (.long xheld), .second, .val (.long xlimit), .second, .val (.int xd), .val (.int xmode), .val (.int xn), .val (.long ((9223372036854775807 : Int64) - (xheld &&& (4294967295 : Int64)))), .second, .val (.long (xlimit &&& (9223372036854775807 : Int64))), .second, .unset, .unset, .unset, .unset] [(.int xmode)]) (fun _ kx_ => XS.iload X0.here hx rfl (hb hby at_65) rfl kx_) ?_
      refine W.s1 (mkF m 68 #[.val (.int x0), .val (.long xheld), .second, .val (.long xlimit), .second, .val (.int xd), .val (.int xmode), .val (.int xn), .val (.long ((9223372036854775807 : Int64) - (xheld &&& (4294967295 : Int64)))), .second, .val (.long (xlimit &&& (9223372036854775807 : Int64))), .second, .unset, .unset, .unset, .unset] [(.int (4 : Int32)), (.int xmode)]) (fun _ kx_ => XS.iconst X0.here hx rfl (hb hby at_67) kx_) ?_
      refine W.s1 (mkF m 69 #[.val (.int x0), .val (.long xheld), .second, .val (.long xlimit), .second, .val (.int xd), .val (.int xmode), .val (.int xn), .val (.long ((9223372036854775807 : Int64) - (xheld &&& (4294967295 : Int64)))), .second, .val (.long (xlimit &&& (9223372036854775807 : Int64))), .second, .unset, .unset, .unset, .unset] [(.int (xmode &&& (4 : Int32)))]) (fun _ kx_ => XS.iand X0.here hx rfl (hb hby at_68) rfl kx_) ?_
      refine W.ifc X0 hx (hb hby at_69) (pc' := 83) (pc'' := 72) (by decide) (by decide) rfl (fun (c69 : (xmode &&& (4 : Int32)) = (0 : Int32)) => ?_) (fun (c69 : ¬ (xmode &&& (4 : Int32)) = (0 : Int32)) => ?_)
      · exact J83 _ _ (own_and32 _) (own_and63 _)
      · refine W.s1 (mkF m 75 #[.val (.int x0), .val (.long xheld), .second, .val (.long xlimit), .second, .val (.int xd), .val (.int xmode), .val (.int xn), .val (.long ((9223372036854775807 : Int64) - (xheld &&& (4294967295 : Int64)))), .second, .val (.long (xlimit &&& (9223372036854775807 : Int64))), .second, .unset, .unset, .unset, .unset] [(.long (9223372036854775807 : Int64))]) (fun _ kx_ => X0.ldc2Long hx hown (mvT hZ (hw _ (List.mem_of_getElem? (i := 1) rfl))) (g := (mkF m 72 #[.val (.int x0), .val (.long xheld), .second, .val (.long xlimit), .second, .val (.int xd), .val (.int xmode), .val (.int xn), .val (.long ((9223372036854775807 : Int64) - (xheld &&& (4294967295 : Int64)))), .second, .val (.long (xlimit &&& (9223372036854775807 : Int64))), .second, .unset, .unset, .unset, .unset] [])) rfl (hb hby at_72) _ kx_) ?_
        refine W.s1 (mkF m 76 #[.val (.int x0), .val (.long xheld), .second, .val (.long xlimit), .second, .val (.int xd), .val (.int xmode), .val (.int xn), .val (.long ((9223372036854775807 : Int64) - (xheld &&& (4294967295 : Int64)))), .second, .val (.long (xlimit &&& (9223372036854775807 : Int64))), .second, .unset, .unset, .unset, .unset] [(.long xlimit), (.long (9223372036854775807 : Int64))]) (fun _ kx_ => XS.lloadN X0.here hx rfl (hb hby at_75) rfl kx_) ?_
        refine W.s1 (mkF m 79 #[.val (.int x0), .val (.long xheld), .second, .val (.long xlimit), .second, .val (.int xd), .val (.int xmode), .val (.int xn), .val (.long ((9223372036854775807 : Int64) - (xheld &&& (4294967295 : Int64)))), .second, .val (.long (xlimit &&& (9223372036854775807 : Int64))), .second, .unset, .unset, .unset, .unset] [(.long (4294967295 : Int64)), (.long xlimit), (.long (9223372036854775807 : Int64))]) (fun _ kx_ => X0.ldc2Long hx hown (mvT hZ (hw _ (List.mem_of_getElem? (i := 2) rfl))) (g := (mkF m 76 #[.val (.int x0), .val (.long xheld), .second, .val (.long xlimit), .second, .val (.int xd), .val (.int xmode), .val (.int xn), .val (.long ((9223372036854775807 : Int64) - (xheld &&& (4294967295 : Int64)))), .second, .val (.long (xlimit &&& (9223372036854775807 : Int64))), .second, .unset, .unset, .unset, .unset] [(.long xlimit), (.long (9223372036854775807 : Int64))])) rfl (hb hby at_76) _ kx_) ?_
        refine W.s1 (mkF m 80 #[.val (.int x0), .val (.long xheld), .second, .val (.long xlimit), .second, .val (.int xd), .val (.int xmode), .val (.int xn), .val (.long ((9223372036854775807 : Int64) - (xheld &&& (4294967295 : Int64)))), .second, .val (.long (xlimit &&& (9223372036854775807 : Int64))), .second, .unset, .unset, .unset, .unset] [(.long (xlimit &&& (4294967295 : Int64))), (.long (9223372036854775807 : Int64))]) (fun _ kx_ => XS.land X0.here hx rfl (hb hby at_79) rfl kx_) ?_
        refine W.s1 (mkF m 81 #[.val (.int x0), .val (.long xheld), .second, .val (.long xlimit), .second, .val (.int xd), .val (.int xmode), .val (.int xn), .val (.long ((9223372036854775807 : Int64) - (xheld &&& (4294967295 : Int64)))), .second, .val (.long (xlimit &&& (9223372036854775807 : Int64))), .second, .unset, .unset, .unset, .unset] [(.long ((9223372036854775807 : Int64) - (xlimit &&& (4294967295 : Int64))))]) (fun _ kx_ => XS.lsub X0.here hx rfl (hb hby at_80) rfl kx_) ?_
        refine W.s1 (mkF m 83 #[.val (.int x0), .val (.long xheld), .second, .val (.long xlimit), .second, .val (.int xd), .val (.int xmode), .val (.int xn), .val (.long ((9223372036854775807 : Int64) - (xheld &&& (4294967295 : Int64)))), .second, .val (.long ((9223372036854775807 : Int64) - (xlimit &&& (4294967295 : Int64)))), .second, .unset, .unset, .unset, .unset] []) (fun _ kx_ => XS.lstore X0.here hx rfl (hb hby at_81) rfl (l' := #[.val (.int x0), .val (.long xheld), .second, .val (.long xlimit), .second, .val (.int xd), .val (.int xmode), .val (.int xn), .val (.long ((9223372036854775807 : Int64) - (xheld &&& (4294967295 : Int64)))), .second, .val (.long ((9223372036854775807 : Int64) - (xlimit &&& (4294967295 : Int64)))), .second, .unset, .unset, .unset, .unset]) rfl kx_) ?_
        exact J83 _ _ (own_and32 _) (own_and32 _)
    · refine W.s1 (mkF m 47 #[.val (.int x0), .val (.long xheld), .second, .val (.long xlimit), .second, .val (.int xd), .val (.int xmode), .val (.int xn), .val (.long ((9223372036854775807 : Int64) - (xheld &&& (4294967295 : Int64)))), .second, .val (.long (xlimit &&& (9223372036854775807 : Int64))), .second, .unset, .unset, .unset, .unset] [(.long ((9223372036854775807 : Int64) - (xheld &&& (4294967295 : Int64))))]) (fun _ kx_ => XS.lload X0.here hx rfl (hb hby at_45) rfl kx_) ?_
      refine W.s1 (mkF m 49 #[.val (.int x0), .val (.long xheld), .second, .val (.long xlimit), .second, .val (.int xd), .val (.int xmode), .val (.int xn), .val (.long ((9223372036854775807 : Int64) - (xheld &&& (4294967295 : Int64)))), .second, .val (.long (xlimit &&& (9223372036854775807 : Int64))), .second, .unset, .unset, .unset, .unset] [(.int xn), (.long ((9223372036854775807 : Int64) - (xheld &&& (4294967295 : Int64))))]) (fun _ kx_ => XS.iload X0.here hx rfl (hb hby at_47) rfl kx_) ?_
      refine W.s1 (mkF m 50 #[.val (.int x0), .val (.long xheld), .second, .val (.long xlimit), .second, .val (.int xd), .val (.int xmode), .val (.int xn), .val (.long ((9223372036854775807 : Int64) - (xheld &&& (4294967295 : Int64)))), .second, .val (.long (xlimit &&& (9223372036854775807 : Int64))), .second, .unset, .unset, .unset, .unset] [(.long (xn.toInt64)), (.long ((9223372036854775807 : Int64) - (xheld &&& (4294967295 : Int64))))]) (fun _ kx_ => XS.i2l X0.here hx rfl (hb hby at_49) rfl kx_) ?_
      refine W.s1 (mkF m 51 #[.val (.int x0), .val (.long xheld), .second, .val (.long xlimit), .second, .val (.int xd), .val (.int xmode), .val (.int xn), .val (.long ((9223372036854775807 : Int64) - (xheld &&& (4294967295 : Int64)))), .second, .val (.long (xlimit &&& (9223372036854775807 : Int64))), .second, .unset, .unset, .unset, .unset] [(.long (((9223372036854775807 : Int64) - (xheld &&& (4294967295 : Int64))) + (xn.toInt64)))]) (fun _ kx_ => XS.ladd X0.here hx rfl (hb hby at_50) rfl kx_) ?_
      refine W.s1 (mkF m 53 #[.val (.int x0), .val (.long xheld), .second, .val (.long xlimit), .second, .val (.int xd), .val (.int xmode), .val (.int xn), .val (.long ((9223372036854775807 : Int64) - (xheld &&& (4294967295 : Int64)))), .second, .val (.long (xlimit &&& (9223372036854775807 : Int64))), .second, .unset, .unset, .unset, .unset] [(.int xd), (.long (((9223372036854775807 : Int64) - (xheld &&& (4294967295 : Int64))) + (xn.toInt64)))]) (fun _ kx_ => XS.iload X0.here hx rfl (hb hby at_51) rfl kx_) ?_
      refine W.s1 (mkF m 54 #[.val (.int x0), .val (.long xheld), .second, .val (.long xlimit), .second, .val (.int xd), .val (.int xmode), .val (.int xn), .val (.long ((9223372036854775807 : Int64) - (xheld &&& (4294967295 : Int64)))), .second, .val (.long (xlimit &&& (9223372036854775807 : Int64))), .second, .unset, .unset, .unset, .unset] [(.int (3 : Int32)), (.int xd), (.long (((9223372036854775807 : Int64) - (xheld &&& (4294967295 : Int64))) + (xn.toInt64)))]) (fun _ kx_ => XS.iconst X0.here hx rfl (hb hby at_53) kx_) ?_
      refine W.s1 (mkF m 55 #[.val (.int x0), .val (.long xheld), .second, .val (.long xlimit), .second, .val (.int xd), .val (.int xmode), .val (.int xn), .val (.long ((9223372036854775807 : Int64) - (xheld &&& (4294967295 : Int64)))), .second, .val (.long (xlimit &&& (9223372036854775807 : Int64))), .second, .unset, .unset, .unset, .unset] [(.int (xd &&& (3 : Int32))), (.long (((9223372036854775807 : Int64) - (xheld &&& (4294967295 : Int64))) + (xn.toInt64)))]) (fun _ kx_ => XS.iand X0.here hx rfl (hb hby at_54) rfl kx_) ?_
      refine W.s1 (mkF m 56 #[.val (.int x0), .val (.long xheld), .second, .val (.long xlimit), .second, .val (.int xd), .val (.int xmode), .val (.int xn), .val (.long ((9223372036854775807 : Int64) - (xheld &&& (4294967295 : Int64)))), .second, .val (.long (xlimit &&& (9223372036854775807 : Int64))), .second, .unset, .unset, .unset, .unset] [(.int (1 : Int32)), (.int (xd &&& (3 : Int32))), (.long (((9223372036854775807 : Int64) - (xheld &&& (4294967295 : Int64))) + (xn.toInt64)))]) (fun _ kx_ => XS.iconst X0.here hx rfl (hb hby at_55) kx_) ?_
      refine W.s1 (mkF m 57 #[.val (.int x0), .val (.long xheld), .second, .val (.long xlimit), .second, .val (.int xd), .val (.int xmode), .val (.int xn), .val (.long ((9223372036854775807 : Int64) - (xheld &&& (4294967295 : Int64)))), .second, .val (.long (xlimit &&& (9223372036854775807 : Int64))), .second, .unset, .unset, .unset, .unset] [(.int ((xd &&& (3 : Int32)) - (1 : Int32))), (.long (((9223372036854775807 : Int64) - (xheld &&& (4294967295 : Int64))) + (xn.toInt64)))]) (fun _ kx_ => XS.isub X0.here hx rfl (hb hby at_56) rfl kx_) ?_
      refine W.s1 (mkF m 58 #[.val (.int x0), .val (.long xheld), .second, .val (.long xlimit), .second, .val (.int xd), .val (.int xmode), .val (.int xn), .val (.long ((9223372036854775807 : Int64) - (xheld &&& (4294967295 : Int64)))), .second, .val (.long (xlimit &&& (9223372036854775807 : Int64))), .second, .unset, .unset, .unset, .unset] [(.long (((xd &&& (3 : Int32)) - (1 : Int32)).toInt64)), (.long (((9223372036854775807 : Int64) - (xheld &&& (4294967295 : Int64))) + (xn.toInt64)))]) (fun _ kx_ => XS.i2l X0.here hx rfl (hb hby at_57) rfl kx_) ?_
      refine W.s1 (mkF m 59 #[.val (.int x0), .val (.long xheld), .second, .val (.long xlimit), .second, .val (.int xd), .val (.int xmode), .val (.int xn), .val (.long ((9223372036854775807 : Int64) - (xheld &&& (4294967295 : Int64)))), .second, .val (.long (xlimit &&& (9223372036854775807 : Int64))), .second, .unset, .unset, .unset, .unset] [(.long ((((9223372036854775807 : Int64) - (xheld &&& (4294967295 : Int64))) + (xn.toInt64)) + (((xd &&& (3 : Int32)) - (1 : Int32)).toInt64)))]) (fun _ kx_ => XS.ladd X0.here hx rfl (hb hby at_58) rfl kx_) ?_
      refine W.s1 (mkF m 62 #[.val (.int x0), .val (.long xheld), .second, .val (.long xlimit), .second, .val (.int xd), .val (.int xmode), .val (.int xn), .val (.long ((9223372036854775807 : Int64) - (xheld &&& (4294967295 : Int64)))), .second, .val (.long (xlimit &&& (9223372036854775807 : Int64))), .second, .unset, .unset, .unset, .unset] [(.long (9223372036854775807 : Int64)), (.long ((((9223372036854775807 : Int64) - (xheld &&& (4294967295 : Int64))) + (xn.toInt64)) + (((xd &&& (3 : Int32)) - (1 : Int32)).toInt64)))]) (fun _ kx_ => X0.ldc2Long hx hown (mvT hZ (hw _ (List.mem_of_getElem? (i := 1) rfl))) (g := (mkF m 59 #[.val (.int x0), .val (.long xheld), .second, .val (.long xlimit), .second, .val (.int xd), .val (.int xmode), .val (.int xn), .val (.long ((9223372036854775807 : Int64) - (xheld &&& (4294967295 : Int64)))), .second, .val (.long (xlimit &&& (9223372036854775807 : Int64))), .second, .unset, .unset, .unset, .unset] [(.long ((((9223372036854775807 : Int64) - (xheld &&& (4294967295 : Int64))) + (xn.toInt64)) + (((xd &&& (3 : Int32)) - (1 : Int32)).toInt64)))])) rfl (hb hby at_59) _ kx_) ?_
      refine W.s1 (mkF m 63 #[.val (.int x0), .val (.long xheld), .second, .val (.long xlimit), .second, .val (.int xd), .val (.int xmode), .val (.int xn), .val (.long ((9223372036854775807 : Int64) - (xheld &&& (4294967295 : Int64)))), .second, .val (.long (xlimit &&& (9223372036854775807 : Int64))), .second, .unset, .unset, .unset, .unset] [(.long (((((9223372036854775807 : Int64) - (xheld &&& (4294967295 : Int64))) + (xn.toInt64)) + (((xd &&& (3 : Int32)) - (1 : Int32)).toInt64)) &&& (9223372036854775807 : Int64)))]) (fun _ kx_ => XS.land X0.here hx rfl (hb hby at_62) rfl kx_) ?_
      refine W.s1 (mkF m 65 #[.val (.int x0), .val (.long xheld), .second, .val (.long xlimit), .second, .val (.int xd), .val (.int xmode), .val (.int xn), .val (.long ((9223372036854775807 : Int64) - (xheld &&& (4294967295 : Int64)))), .second, .val (.long (((((9223372036854775807 : Int64) - (xheld &&& (4294967295 : Int64))) + (xn.toInt64)) + (((xd &&& (3 : Int32)) - (1 : Int32)).toInt64)) &&& (9223372036854775807 : Int64))), .second, .unset, .unset, .unset, .unset] []) (fun _ kx_ => XS.lstore X0.here hx rfl (hb hby at_63) rfl (l' := #[.val (.int x0), .val (.long xheld), .second, .val (.long xlimit), .second, .val (.int xd), .val (.int xmode), .val (.int xn), .val (.long ((9223372036854775807 : Int64) - (xheld &&& (4294967295 : Int64)))), .second, .val (.long (((((9223372036854775807 : Int64) - (xheld &&& (4294967295 : Int64))) + (xn.toInt64)) + (((xd &&& (3 : Int32)) - (1 : Int32)).toInt64)) &&& (9223372036854775807 : Int64))), .second, .unset, .unset, .unset, .unset]) rfl kx_) ?_
      refine W.s1 (mkF m 67 #[.val (.int x0), .val (.long xheld), .second, .val (.long xlimit), .second, .val (.int xd), .val (.int xmode), .val (.int xn), .val (.long ((9223372036854775807 : Int64) - (xheld &&& (4294967295 : Int64)))), .second, .val (.long (((((9223372036854775807 : Int64) - (xheld &&& (4294967295 : Int64))) + (xn.toInt64)) + (((xd &&& (3 : Int32)) - (1 : Int32)).toInt64)) &&& (9223372036854775807 : Int64))), .second, .unset, .unset, .unset, .unset] [(.int xmode)]) (fun _ kx_ => XS.iload X0.here hx rfl (hb hby at_65) rfl kx_) ?_
      refine W.s1 (mkF m 68 #[.val (.int x0), .val (.long xheld), .second, .val (.long xlimit), .second, .val (.int xd), .val (.int xmode), .val (.int xn), .val (.long ((9223372036854775807 : Int64) - (xheld &&& (4294967295 : Int64)))), .second, .val (.long (((((9223372036854775807 : Int64) - (xheld &&& (4294967295 : Int64))) + (xn.toInt64)) + (((xd &&& (3 : Int32)) - (1 : Int32)).toInt64)) &&& (9223372036854775807 : Int64))), .second, .unset, .unset, .unset, .unset] [(.int (4 : Int32)), (.int xmode)]) (fun _ kx_ => XS.iconst X0.here hx rfl (hb hby at_67) kx_) ?_
      refine W.s1 (mkF m 69 #[.val (.int x0), .val (.long xheld), .second, .val (.long xlimit), .second, .val (.int xd), .val (.int xmode), .val (.int xn), .val (.long ((9223372036854775807 : Int64) - (xheld &&& (4294967295 : Int64)))), .second, .val (.long (((((9223372036854775807 : Int64) - (xheld &&& (4294967295 : Int64))) + (xn.toInt64)) + (((xd &&& (3 : Int32)) - (1 : Int32)).toInt64)) &&& (9223372036854775807 : Int64))), .second, .unset, .unset, .unset, .unset] [(.int (xmode &&& (4 : Int32)))]) (fun _ kx_ => XS.iand X0.here hx rfl (hb hby at_68) rfl kx_) ?_
      refine W.ifc X0 hx (hb hby at_69) (pc' := 83) (pc'' := 72) (by decide) (by decide) rfl (fun (c69 : (xmode &&& (4 : Int32)) = (0 : Int32)) => ?_) (fun (c69 : ¬ (xmode &&& (4 : Int32)) = (0 : Int32)) => ?_)
      · exact J83 _ _ (own_and32 _) (own_and63 _)
      · refine W.s1 (mkF m 75 #[.val (.int x0), .val (.long xheld), .second, .val (.long xlimit), .second, .val (.int xd), .val (.int xmode), .val (.int xn), .val (.long ((9223372036854775807 : Int64) - (xheld &&& (4294967295 : Int64)))), .second, .val (.long (((((9223372036854775807 : Int64) - (xheld &&& (4294967295 : Int64))) + (xn.toInt64)) + (((xd &&& (3 : Int32)) - (1 : Int32)).toInt64)) &&& (9223372036854775807 : Int64))), .second, .unset, .unset, .unset, .unset] [(.long (9223372036854775807 : Int64))]) (fun _ kx_ => X0.ldc2Long hx hown (mvT hZ (hw _ (List.mem_of_getElem? (i := 1) rfl))) (g := (mkF m 72 #[.val (.int x0), .val (.long xheld), .second, .val (.long xlimit), .second, .val (.int xd), .val (.int xmode), .val (.int xn), .val (.long ((9223372036854775807 : Int64) - (xheld &&& (4294967295 : Int64)))), .second, .val (.long (((((9223372036854775807 : Int64) - (xheld &&& (4294967295 : Int64))) + (xn.toInt64)) + (((xd &&& (3 : Int32)) - (1 : Int32)).toInt64)) &&& (9223372036854775807 : Int64))), .second, .unset, .unset, .unset, .unset] [])) rfl (hb hby at_72) _ kx_) ?_
        refine W.s1 (mkF m 76 #[.val (.int x0), .val (.long xheld), .second, .val (.long xlimit), .second, .val (.int xd), .val (.int xmode), .val (.int xn), .val (.long ((9223372036854775807 : Int64) - (xheld &&& (4294967295 : Int64)))), .second, .val (.long (((((9223372036854775807 : Int64) - (xheld &&& (4294967295 : Int64))) + (xn.toInt64)) + (((xd &&& (3 : Int32)) - (1 : Int32)).toInt64)) &&& (9223372036854775807 : Int64))), .second, .unset, .unset, .unset, .unset] [(.long xlimit), (.long (9223372036854775807 : Int64))]) (fun _ kx_ => XS.lloadN X0.here hx rfl (hb hby at_75) rfl kx_) ?_
        refine W.s1 (mkF m 79 #[.val (.int x0), .val (.long xheld), .second, .val (.long xlimit), .second, .val (.int xd), .val (.int xmode), .val (.int xn), .val (.long ((9223372036854775807 : Int64) - (xheld &&& (4294967295 : Int64)))), .second, .val (.long (((((9223372036854775807 : Int64) - (xheld &&& (4294967295 : Int64))) + (xn.toInt64)) + (((xd &&& (3 : Int32)) - (1 : Int32)).toInt64)) &&& (9223372036854775807 : Int64))), .second, .unset, .unset, .unset, .unset] [(.long (4294967295 : Int64)), (.long xlimit), (.long (9223372036854775807 : Int64))]) (fun _ kx_ => X0.ldc2Long hx hown (mvT hZ (hw _ (List.mem_of_getElem? (i := 2) rfl))) (g := (mkF m 76 #[.val (.int x0), .val (.long xheld), .second, .val (.long xlimit), .second, .val (.int xd), .val (.int xmode), .val (.int xn), .val (.long ((9223372036854775807 : Int64) - (xheld &&& (4294967295 : Int64)))), .second, .val (.long (((((9223372036854775807 : Int64) - (xheld &&& (4294967295 : Int64))) + (xn.toInt64)) + (((xd &&& (3 : Int32)) - (1 : Int32)).toInt64)) &&& (9223372036854775807 : Int64))), .second, .unset, .unset, .unset, .unset] [(.long xlimit), (.long (9223372036854775807 : Int64))])) rfl (hb hby at_76) _ kx_) ?_
        refine W.s1 (mkF m 80 #[.val (.int x0), .val (.long xheld), .second, .val (.long xlimit), .second, .val (.int xd), .val (.int xmode), .val (.int xn), .val (.long ((9223372036854775807 : Int64) - (xheld &&& (4294967295 : Int64)))), .second, .val (.long (((((9223372036854775807 : Int64) - (xheld &&& (4294967295 : Int64))) + (xn.toInt64)) + (((xd &&& (3 : Int32)) - (1 : Int32)).toInt64)) &&& (9223372036854775807 : Int64))), .second, .unset, .unset, .unset, .unset] [(.long (xlimit &&& (4294967295 : Int64))), (.long (9223372036854775807 : Int64))]) (fun _ kx_ => XS.land X0.here hx rfl (hb hby at_79) rfl kx_) ?_
        refine W.s1 (mkF m 81 #[.val (.int x0), .val (.long xheld), .second, .val (.long xlimit), .second, .val (.int xd), .val (.int xmode), .val (.int xn), .val (.long ((9223372036854775807 : Int64) - (xheld &&& (4294967295 : Int64)))), .second, .val (.long (((((9223372036854775807 : Int64) - (xheld &&& (4294967295 : Int64))) + (xn.toInt64)) + (((xd &&& (3 : Int32)) - (1 : Int32)).toInt64)) &&& (9223372036854775807 : Int64))), .second, .unset, .unset, .unset, .unset] [(.long ((9223372036854775807 : Int64) - (xlimit &&& (4294967295 : Int64))))]) (fun _ kx_ => XS.lsub X0.here hx rfl (hb hby at_80) rfl kx_) ?_
        refine W.s1 (mkF m 83 #[.val (.int x0), .val (.long xheld), .second, .val (.long xlimit), .second, .val (.int xd), .val (.int xmode), .val (.int xn), .val (.long ((9223372036854775807 : Int64) - (xheld &&& (4294967295 : Int64)))), .second, .val (.long ((9223372036854775807 : Int64) - (xlimit &&& (4294967295 : Int64)))), .second, .unset, .unset, .unset, .unset] []) (fun _ kx_ => XS.lstore X0.here hx rfl (hb hby at_81) rfl (l' := #[.val (.int x0), .val (.long xheld), .second, .val (.long xlimit), .second, .val (.int xd), .val (.int xmode), .val (.int xn), .val (.long ((9223372036854775807 : Int64) - (xheld &&& (4294967295 : Int64)))), .second, .val (.long ((9223372036854775807 : Int64) - (xlimit &&& (4294967295 : Int64)))), .second, .unset, .unset, .unset, .unset]) rfl kx_) ?_
        exact J83 _ _ (own_and32 _) (own_and32 _)
set_option maxRecDepth 65536 in
set_option maxHeartbeats 40000000 in
theorem comes_1 {Post : Tables → Env → Array Value → State → Outcome → State → Prop} (hpost : ∀ tb e args s v u, (limb_1_1.after args s (.returned v) u = true ∧ limb_1_2.after args s (.returned v) u = true ∧ True) → FrameEnd s (.returned v) u (Jvm.fieldLocs frame_1_writes args s ++ Jvm.arrayLocs frame_1_arrays args s ++ Jvm.staticLocs frame_1_statics s) 0 0 → Post tb e args s (.returned v) u) :
    ArmFor flags0 classFile x code maxLocals ret World_1 tables_1 room_1 Calls_1 rest_1 Pre_1 Post := by
  intro l hfl _ _ p e ha hc hk s m args below hf hA hF happ hP
  obtain ⟨hcalls, hrest, hpre⟩ := hP
  obtain ⟨-, -, -, hnamed, -, -, -, hat⟩ := (Spec.applies_iff hf).mp happ
  obtain ⟨hg, hn⟩ := and_e (Cond.before_iff.mp (show (Jvm.Cond.and given_1 narrow_1).before args s = true from hpre))
  obtain ⟨gc, g0⟩ := and_e hg
  obtain ⟨w_0, g1⟩ := and_e g0
  obtain ⟨w_1, g2⟩ := and_e g1
  obtain ⟨w_2, g3⟩ := and_e g2
  obtain ⟨w_3, g4⟩ := and_e g3
  have w_4 := g4
  obtain ⟨w0, w1, w2, w3, w4, rfl⟩ : ∃ w0 w1 w2 w3 w4 : Value, args = #[w0, w1, w2, w3, w4] := by
    have hs : args.size = 5 := by simpa [Cond.value, given_1] using gc
    obtain ⟨L⟩ := args
    match L, hs with
    | [w0, w1, w2, w3, w4], _ => exact ⟨w0, w1, w2, w3, w4, rfl⟩
  have hw := fun d (hd : d ∈ tables_1) => atoms_spec (ws := Jvm.Cond.code x code maxLocals ret :: tables_1) hat d (List.mem_cons_of_mem _ hd)
  have hfit : Fit s := fun {y c} hc i hi => by
    obtain ⟨ha, rfl⟩ := Array.getElem?_eq_some_iff.mp hc
    have q := List.all_eq_true.mp ((Array.all_eq_true_iff_forall_mem.mp hF) _ (Array.getElem_mem ha)) i (List.mem_range.mpr hi)
    simpa [Array.getElem?_eq_getElem hi] using q
  obtain ⟨i0, ei0⟩ := is_v w_0
  obtain rfl : w0 = (.int i0) := Option.some.inj ei0
  obtain ⟨i1, ei1⟩ := isL_v w_1
  obtain rfl : w1 = (.long i1) := Option.some.inj ei1
  obtain ⟨i2, ei2⟩ := isL_v w_2
  obtain rfl : w2 = (.long i2) := Option.some.inj ei2
  obtain ⟨i3, ei3⟩ := is_v w_3
  obtain rfl : w3 = (.int i3) := Option.some.inj ei3
  obtain ⟨i4, ei4⟩ := is_v w_4
  obtain rfl : w4 = (.int i4) := Option.some.inj ei4
  obtain ⟨n, o, h1, h2, h3, _, L, rfl, ⟨rfl, N⟩, hq⟩ := rm0 l s _ hw tables_1 i0 i1 i2 i3 i4 s.heap s.heap.size (Nat.le_refl _)  p e ha hc hk s m _ below hf ((Spec.applies_iff_loose hf).mp happ).1 ⟨rfl, State.Warmed39.refl s, rfl⟩ trivial
  refine ⟨n, _, h1, h2, h3, hpost _ _ _ _ _ _ ⟨Cond.after_iff.mpr rfl, Cond.after_iff.mpr (eq_i res_at (Term.int_eval (1)) rfl), trivial⟩ ⟨hq.1, hq.2.1, (hq.2.2.sift fun y hy => Or.inr (N y hy)).mono (by decide) (by decide)⟩⟩
theorem main_1_1 : Claimed_1_1 := comes_1 fun _ _ _ _ _ _ h hF => ⟨h.1, hF⟩
theorem main_1_2 : Claimed_1_2 := comes_1 fun _ _ _ _ _ _ h hF => ⟨h.2.1, hF⟩
end Jvm.Pilot.@@N@@
namespace Jvm.Pilot.@@N@@
open Jvm Jvm.ClassFile Sem Op Lib Jvm.Free Jvm.Stand Jvm.Pilot.@@N@@.Jvm.D
/-! MADE BY PROGRAM (witnessworld.py) out of the Statement's table words and the real class files: 9 classes; the members and pool entries that the words name. The judged class is class 1, her method 1. -/
namespace start1
open Jvm.ClassFile
def u (s : String) : CpInfo := .utf8 (stringToUtf16 s)
/-- a pool by its gaps: so many unusable entries, then the entry; so many at the end -/
def gap : Nat → List CpInfo → List CpInfo
  | 0, r => r
  | n + 1, r => .unusable :: gap n r
def poolList (es : List (Nat × CpInfo)) (last : Nat) : List CpInfo := es.foldr (fun e r => gap e.1 (e.2 :: r)) (gap last [])
def pool (es : List (Nat × CpInfo)) (last : Nat) : Array CpInfo := ⟨poolList es last⟩
def fileOf (pool : Array CpInfo) (this : Nat) (attrs : Array Attribute := #[]) (ms : Array MethodInfo := #[]) (fl : Nat := 33) (sup : Nat := 0) (ifs : Array Nat := #[]) (fds : Array FieldInfo := #[]) : ClassFile where
  minorVersion := 0
  majorVersion := 65
  constantPool := pool
  accessFlags := fl
  thisClass := this
  superClass := sup
  interfaces := ifs
  fields := fds
  methods := ms
  attributes := attrs
def plain (name : String) (sup : Option ClassId) : Class where
  name := name
  kind := .ordinary
  loader := none
  accessFlags := 33
  super := sup
  interfaces := #[]
  cf := none
  fields := #[]
  methods := #[]
  instanceTypes := #[]
  staticTypes := #[]
  resolved := #[]
  callSites := []
  init := .initialized
  statics := none
  mirror := none

def pool0 : Array CpInfo := pool [(5, u "<init>"), (0, u "()V"), (1, .class_ 10), (1, u "java/lang/Object")] 113

def k0m0 : Method := { name := "<init>", desc := "()V", sig := { parameters := [], returnType := none }, accessFlags := 1, code := none }
/-- java/lang/Object -/
def k0 : Class := { plain "java/lang/Object" none with
  accessFlags := 33
  interfaces := #[]
  cf := some (fileOf pool0 8 #[] #[{ accessFlags := 1, nameIndex := 5, descriptorIndex := 6, attributes := #[] }] 33 0 #[] #[])
  fields := #[]
  methods := #[k0m0]
  instanceTypes := #[]
  staticTypes := #[]
  resolved := Array.replicate 124 none
  statics := none }

def pool1 : Array CpInfo := pool [(2, .class_ 4), (1, u "java/lang/Object"), (0, u "<init>"), (0, u "()V"), (0, .integer 2147483647), (2, .long 9223372036854775807), (1, .long 4294967295), (1, .methodref 15 16), (0, .class_ 17), (0, .nameAndType 18 19), (0, u "com/example/careful_courier/carefulcourier/model/Limits"), (0, u "fits"), (0, u "(IJJ)Z"), (0, .class_ 21), (0, u "com/example/careful_courier/carefulcourier/model/LimitsFitsPinLaw"), (2, u "law"), (0, u "(IJJII)Z")] 3

def k1m0 : Method := { name := "<init>", desc := "()V", sig := { parameters := [], returnType := none }, accessFlags := 2, code := none }
def k1c1 : Code := { maxStack := 6, maxLocals := 16, code := code, exceptionTable := #[], attributes := #[] }
def k1m1 : Method := { name := "law", desc := "(IJJII)Z", sig := { parameters := [.int, .long, .long, .int, .int], returnType := some .boolean }, accessFlags := 9, code := some k1c1 }
/-- com/example/careful_courier/carefulcourier/model/LimitsFitsPinLaw -/
def k1 : Class := { plain "com/example/careful_courier/carefulcourier/model/LimitsFitsPinLaw" (some 0) with
  accessFlags := 49
  interfaces := #[]
  cf := some (fileOf pool1 20 #[] #[{ accessFlags := 2, nameIndex := 5, descriptorIndex := 6, attributes := #[] }, { accessFlags := 9, nameIndex := 24, descriptorIndex := 25, attributes := #[] }] 49 2 #[] #[])
  fields := #[]
  methods := #[k1m0, k1m1]
  instanceTypes := #[]
  staticTypes := #[]
  resolved := Array.replicate 29 none
  statics := none }

def pool2 : Array CpInfo := pool [(3, .class_ 4), (0, u "com/example/careful_courier/carefulcourier/model/Limits"), (1, .class_ 8), (1, u "java/lang/Object"), (0, u "<init>"), (0, u "()V"), (40, u "DEFAULT_MESSAGE_BYTES"), (0, u "I"), (2, u "MAX_MESSAGE_BYTES"), (1, u "DEFAULT_MAILBOX_BYTES"), (0, u "J"), (2, u "MAX_MAILBOX_BYTES"), (0, u "DEFAULT_PEER_BYTES"), (0, u "MAX_PEER_BYTES"), (0, u "DEFAULT_CONNECTIONS"), (1, u "MAX_CONNECTIONS"), (1, u "DEFAULT_REQUEST_SECONDS"), (1, u "MAX_REQUEST_SECONDS"), (1, u "DEFAULT_HOLD_SECONDS"), (0, u "MAX_HOLD_SECONDS"), (0, u "NOT_A_MESSAGE_LIMIT"), (0, u "Ljava/lang/String;"), (0, u "NOT_A_CONNECTION_LIMIT"), (0, u "NOT_A_REQUEST_TIMEOUT"), (0, u "NOT_A_HOLD"), (0, u "NOT_A_MAILBOX_LIMIT"), (0, u "NOT_A_PEER_LIMIT"), (10, u "fits"), (0, u "(IJJ)Z")] 6

def k2m0 : Method := { name := "<init>", desc := "()V", sig := { parameters := [], returnType := none }, accessFlags := 2, code := none }
def k2c1 : Code := { maxStack := 6, maxLocals := 5, code := prog_28_method_6_code, exceptionTable := #[], attributes := #[] }
def k2m1 : Method := { name := "fits", desc := "(IJJ)Z", sig := { parameters := [.int, .long, .long], returnType := some .boolean }, accessFlags := 9, code := some k2c1 }
/-- com/example/careful_courier/carefulcourier/model/Limits -/
def k2 : Class := { plain "com/example/careful_courier/carefulcourier/model/Limits" (some 0) with
  accessFlags := 33
  interfaces := #[]
  cf := some (fileOf pool2 3 #[] #[{ accessFlags := 2, nameIndex := 9, descriptorIndex := 10, attributes := #[] }, { accessFlags := 9, nameIndex := 91, descriptorIndex := 92, attributes := #[] }] 33 6 #[] #[{ accessFlags := 25, nameIndex := 51, descriptorIndex := 52, attributes := #[] }, { accessFlags := 25, nameIndex := 55, descriptorIndex := 52, attributes := #[] }, { accessFlags := 25, nameIndex := 57, descriptorIndex := 58, attributes := #[] }, { accessFlags := 25, nameIndex := 61, descriptorIndex := 58, attributes := #[] }, { accessFlags := 25, nameIndex := 62, descriptorIndex := 58, attributes := #[] }, { accessFlags := 25, nameIndex := 63, descriptorIndex := 58, attributes := #[] }, { accessFlags := 25, nameIndex := 64, descriptorIndex := 52, attributes := #[] }, { accessFlags := 25, nameIndex := 66, descriptorIndex := 52, attributes := #[] }, { accessFlags := 25, nameIndex := 68, descriptorIndex := 52, attributes := #[] }, { accessFlags := 25, nameIndex := 70, descriptorIndex := 52, attributes := #[] }, { accessFlags := 25, nameIndex := 72, descriptorIndex := 52, attributes := #[] }, { accessFlags := 25, nameIndex := 73, descriptorIndex := 52, attributes := #[] }, { accessFlags := 26, nameIndex := 74, descriptorIndex := 75, attributes := #[] }, { accessFlags := 26, nameIndex := 76, descriptorIndex := 75, attributes := #[] }, { accessFlags := 26, nameIndex := 77, descriptorIndex := 75, attributes := #[] }, { accessFlags := 26, nameIndex := 78, descriptorIndex := 75, attributes := #[] }, { accessFlags := 26, nameIndex := 79, descriptorIndex := 75, attributes := #[] }, { accessFlags := 26, nameIndex := 80, descriptorIndex := 75, attributes := #[] }])
  fields := #[{ name := "DEFAULT_MESSAGE_BYTES", type := .int, accessFlags := 25, slot := 0, constantValue := 0 }, { name := "MAX_MESSAGE_BYTES", type := .int, accessFlags := 25, slot := 1, constantValue := 0 }, { name := "DEFAULT_MAILBOX_BYTES", type := .long, accessFlags := 25, slot := 2, constantValue := 0 }, { name := "MAX_MAILBOX_BYTES", type := .long, accessFlags := 25, slot := 3, constantValue := 0 }, { name := "DEFAULT_PEER_BYTES", type := .long, accessFlags := 25, slot := 4, constantValue := 0 }, { name := "MAX_PEER_BYTES", type := .long, accessFlags := 25, slot := 5, constantValue := 0 }, { name := "DEFAULT_CONNECTIONS", type := .int, accessFlags := 25, slot := 6, constantValue := 0 }, { name := "MAX_CONNECTIONS", type := .int, accessFlags := 25, slot := 7, constantValue := 0 }, { name := "DEFAULT_REQUEST_SECONDS", type := .int, accessFlags := 25, slot := 8, constantValue := 0 }, { name := "MAX_REQUEST_SECONDS", type := .int, accessFlags := 25, slot := 9, constantValue := 0 }, { name := "DEFAULT_HOLD_SECONDS", type := .int, accessFlags := 25, slot := 10, constantValue := 0 }, { name := "MAX_HOLD_SECONDS", type := .int, accessFlags := 25, slot := 11, constantValue := 0 }, { name := "NOT_A_MESSAGE_LIMIT", type := (.object "java/lang/String"), accessFlags := 26, slot := 12, constantValue := 0 }, { name := "NOT_A_CONNECTION_LIMIT", type := (.object "java/lang/String"), accessFlags := 26, slot := 13, constantValue := 0 }, { name := "NOT_A_REQUEST_TIMEOUT", type := (.object "java/lang/String"), accessFlags := 26, slot := 14, constantValue := 0 }, { name := "NOT_A_HOLD", type := (.object "java/lang/String"), accessFlags := 26, slot := 15, constantValue := 0 }, { name := "NOT_A_MAILBOX_LIMIT", type := (.object "java/lang/String"), accessFlags := 26, slot := 16, constantValue := 0 }, { name := "NOT_A_PEER_LIMIT", type := (.object "java/lang/String"), accessFlags := 26, slot := 17, constantValue := 0 }]
  methods := #[k2m0, k2m1]
  instanceTypes := #[]
  staticTypes := #[.int, .int, .long, .long, .long, .long, .int, .int, .int, .int, .int, .int, (.object "java/lang/String"), (.object "java/lang/String"), (.object "java/lang/String"), (.object "java/lang/String"), (.object "java/lang/String"), (.object "java/lang/String")]
  resolved := Array.replicate 99 none
  statics := none }

def pool3 : Array CpInfo := pool [(1, u "java/lang/Cloneable"), (0, .class_ 1), (0, u "java/lang/Object"), (0, .class_ 3)] 3

/-- java/lang/Cloneable -/
def k3 : Class := { plain "java/lang/Cloneable" (some 0) with
  accessFlags := 1537
  interfaces := #[]
  cf := some (fileOf pool3 2 #[] #[] 1537 4 #[] #[])
  fields := #[]
  methods := #[]
  instanceTypes := #[]
  staticTypes := #[]
  resolved := Array.replicate 8 none
  statics := none }

def pool4 : Array CpInfo := pool [(1, u "java/io/Serializable"), (0, .class_ 1), (0, u "java/lang/Object"), (0, .class_ 3)] 3

/-- java/io/Serializable -/
def k4 : Class := { plain "java/io/Serializable" (some 0) with
  accessFlags := 1537
  interfaces := #[]
  cf := some (fileOf pool4 2 #[] #[] 1537 4 #[] #[])
  fields := #[]
  methods := #[]
  instanceTypes := #[]
  staticTypes := #[]
  resolved := Array.replicate 8 none
  statics := none }

/-- the primitive byte -/
def k5 : Class := { plain "byte" none with kind := .primitive 'B', accessFlags := 0x411 }
/-- [B -/
def k6 : Class := { plain "[B" (some 0) with kind := .array 5 .byte, interfaces := #[3, 4], accessFlags := 1041 }

/-- the primitive int -/
def k7 : Class := { plain "int" none with kind := .primitive 'I', accessFlags := 0x411 }
/-- [I -/
def k8 : Class := { plain "[I" (some 0) with kind := .array 7 .int, interfaces := #[3, 4], accessFlags := 1041 }

def heap : Heap := #[]
def classes : Array Class := #[k0, k1, k2, k3, k4, k5, k6, k7, k8]
def interned : List (Array UInt16 × Addr) := []
def slotsUsed : Nat := 0
def theMethod : MethodId := ⟨1, 1⟩
def args0 : Array Value := #[.int 5, .long 3, .long 9, .int 1, .int 0]
def aboutOver (below : List Frame) : State where
  vm := { classes := classes, interned := interned.toArray }
  heap := heap
  slotsUsed := slotsUsed
  threads := #[{ frames := .invoking theMethod args0 :: below }]
def below0 : List Frame := [.native { method := ⟨0, 0⟩, args := #[] }]
def about1 : State := aboutOver below0
def p0 : Program := .bare "" "" ""
def e0 : Env := launch0.env 0 0 0
theorem w_frames : about1.frames = Frame.invoking theMethod args0 :: below0 := rfl
set_option maxRecDepth 65536 in
theorem w_args : argsFit about1.vm theMethod args0 = true := by decide +kernel
set_option maxRecDepth 65536 in
theorem w_heap : heapFits about1 = true := by decide +kernel
set_option maxRecDepth 65536 in
theorem w_runnable : about1.curStatus? = some .runnable := by decide +kernel
set_option maxRecDepth 65536 in
theorem w_alone : about1.alone = true := by decide +kernel
set_option maxRecDepth 65536 in
theorem w_named : about1.methodNamed? x = some theMethod := by decide +kernel
set_option maxRecDepth 65536 in
theorem w_hears : about1.hears theMethod below0 = true := by decide +kernel
set_option maxRecDepth 65536 in
theorem w_ripe : about1.ripe theMethod args0 below0 = true := by decide +kernel
theorem w_running : about1.status = .running := rfl
set_option maxRecDepth 65536 in
theorem w_room : about1.hasRoom e0.platform room_1 = true :=
  launch0.hasRoom_least _ room_1 (by decide +kernel) (by decide +kernel) (by decide +kernel) (by decide +kernel) (by decide +kernel) (by decide +kernel)
theorem allAtoms_all (ts : List Jvm.Cond) (a : Array Jvm.Value) (st : Jvm.State) : (allAtoms ts).before a st = ts.all (fun c => c.before a st) := by
  induction ts with
  | nil => rfl
  | cons c t ih =>
    show (Jvm.Cond.and c (allAtoms t)).before a st = _
    rw [Jvm.Cond.before_and, ih, List.all_cons]
def words1 : List Jvm.Cond := Jvm.Cond.code x code maxLocals ret :: tables_1
/-- a 'code' word, met by the world's own term for the bytes: nothing is compared byte by byte -/
theorem code_word {y : MethodName} {bytes : ByteArray} {mx : Nat} {rt : Option FieldType} {a : Array Value} {s : State} {m : MethodId} {meth : Method} {c : Code} (h1 : s.methodNamed? y = some m) (h2 : s.vm.method? m = some meth) (h3 : meth.code = some c) (h4 : c.code = bytes)
    (h5 : (c.maxLocals == mx && c.exceptionTable.isEmpty && decide (c.maxStack ≤ mostOperands) && decide (meth.sig.returnType = rt) && !meth.locks && decide (parseMethodDescriptor y.desc = some meth.sig)) = true) : (Jvm.Cond.code y bytes mx rt).before a s = true := by
  simp only [Bool.and_eq_true, beq_iff_eq, Bool.not_eq_true', decide_eq_true_eq] at h5
  obtain ⟨⟨⟨⟨⟨g1, g2⟩, g3⟩, g4⟩, g5⟩, g6⟩ := h5
  simp [Cond.before, Cond.holds, Cond.value, h1, h2, h3, h4, g1, g2, g3, g4, g5, g6]
def isCode : Jvm.Cond → Bool
  | .code _ _ _ _ => true
  | _ => false
theorem all_split {L : List Jvm.Cond} {P : Jvm.Cond → Bool} (h1 : L.all (fun c => isCode c || P c) = true) (h2 : ∀ c ∈ L.filter isCode, P c = true) : L.all P = true := by
  refine List.all_eq_true.mpr fun c hc => ?_
  have h := List.all_eq_true.mp h1 c hc
  rcases Bool.eq_false_or_eq_true (isCode c) with hi | hi
  · exact h2 c (List.mem_filter.mpr ⟨hc, hi⟩)
  · simpa [hi] using h
set_option maxRecDepth 65536 in
theorem w_c0 : (Jvm.Cond.code x code maxLocals ret).before args0 about1 = true := code_word (m := ⟨1, 1⟩) (meth := k1m1) (c := k1c1) (by decide +kernel) rfl rfl rfl (by decide +kernel)
set_option maxRecDepth 65536 in
theorem w_c1 : (Jvm.Cond.code ({ cls := "com/example/careful_courier/carefulcourier/model/Limits", name := "fits", desc := "(IJJ)Z" } : Jvm.MethodName) prog_28_method_6_code (5 : Nat) (Option.some Jvm.ClassFile.FieldType.boolean)).before args0 about1 = true := code_word (m := ⟨2, 1⟩) (meth := k2m1) (c := k2c1) (by decide +kernel) rfl rfl rfl (by decide +kernel)
def codes1 : List Jvm.Cond := [Jvm.Cond.code x code maxLocals ret, Jvm.Cond.code ({ cls := "com/example/careful_courier/carefulcourier/model/Limits", name := "fits", desc := "(IJJ)Z" } : Jvm.MethodName) prog_28_method_6_code (5 : Nat) (Option.some Jvm.ClassFile.FieldType.boolean)]
set_option maxRecDepth 65536 in
theorem codes_eq : words1.filter isCode = codes1 := rfl
theorem w_codes : ∀ c ∈ words1.filter isCode, c.before args0 about1 = true := by
  rw [codes_eq]
  intro c hc
  simp only [codes1, List.mem_cons, List.not_mem_nil, or_false] at hc
  rcases hc with rfl | rfl
  · exact w_c0
  · exact w_c1
set_option maxRecDepth 65536 in
theorem w_t1 : words1.all (fun c => isCode c || c.before args0 about1) = true := by decide +kernel
theorem w_tables : (allAtoms (Jvm.Cond.code x code maxLocals ret :: tables_1)).before args0 about1 = true := by
  rw [allAtoms_all]
  show words1.all (fun c => c.before args0 about1) = true
  refine all_split ?_ w_codes
  rw [w_t1]
set_option maxRecDepth 65536 in
theorem w_case : (Jvm.Cond.and given_1 narrow_1).before args0 about1 = true := by decide +kernel
theorem w_applies : (headSpec (Jvm.Cond.code x code maxLocals ret :: tables_1) room_1).applies x e0.platform about1 = true :=
  (Spec.applies_iff w_frames).mpr ⟨w_running, w_runnable, w_alone, w_named, w_hears, w_ripe, w_room, w_tables⟩
theorem atStart : AtStart classFile x code maxLocals ret World_1 tables_1 room_1 Calls_1 rest_1 Pre_1 launch0 p0 e0 about1 theMethod args0 below0 :=
  ⟨lists_1, trivial, launch0.admits_env _ _ _, launch0.least_env, fairChoices_fair.cas, fairChoices_fair.clock, w_frames, w_args, w_heap, w_applies, trivial, trivial, w_case⟩
end start1
theorem witness_1 : WitnessClaimed_1 := ⟨start1.p0, start1.e0, start1.about1, start1.theMethod, start1.args0, start1.below0, start1.atStart⟩
end Jvm.Pilot.@@N@@
