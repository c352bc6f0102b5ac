import JvmDerived
import JvmDerived.Pilot.@@N@@Statement
import JvmDerived.Pilot.@@N@@Code
set_option linter.unusedVariables false
set_option linter.unusedSimpArgs false
namespace Jvm.Pilot.@@N@@.W
open Jvm Jvm.ClassFile Sem Op Lib Jvm.Free Jvm.Stand Jvm.LawKit Jvm.RoadKit
/-! own kit: a body's walk in one pass, backwards from its end ('Gl': from here the body comes to its end and there P holds) -/
section Walk
variable {p : Program} {l : Launch} {e : Env} {R : Room} {s : State} {m : MethodId} {args : Array Value} {below : List Frame} {meth : Method} {c : Code} {T T' : State} {locs : List Loc} {cells slots : Nat} {P : Option Value → Heap → List Loc → Prop} {C N : Nat} {Ls : Array Slot} {S : List Value} {pc pc' pc'' : Nat} {g : JFrame}
def Gl (p : Program) (e : Env) (below : List Frame) (s : State) (P : Option Value → Heap → List Loc → Prop) (C N : Nat) (T : State) (g : JFrame) : Prop :=
  ∃ (s₂ : State) (o : Outcome), Steps p.tables e below (T.setTop g) s₂ ∧ s₂.status = .running ∧ Ended s₂ below o ∧ ∃ v L, o = .returned v ∧ P v s₂.heap L ∧ FrameEnd s o s₂ L C N
theorem s1 (g' : JFrame) (h : ∀ t, Steps p.tables e below (T.setTop g') t → Steps p.tables e below (T.setTop g) t) (K : Gl p e below s P C N T g') : Gl p e below s P C N T g := by
  obtain ⟨s₂, o, h1, h2⟩ := K; exact ⟨s₂, o, h _ h1, h2⟩
theorem s2 (g' : JFrame) (h : ∀ t, Steps p.tables e below (T'.setTop g') t → Steps p.tables e below (T.setTop g) t) (K : Gl p e below s P C N T' g') : Gl p e below s P C N T g := by
  obtain ⟨s₂, o, h1, h2⟩ := K; exact ⟨s₂, o, h _ h1, h2⟩
theorem s3 (g' : JFrame) (h : Steps p.tables e below (T.setTop g) (T'.setTop g')) (K : Gl p e below s P C N T' g') : Gl p e below s P C N T g := by
  obtain ⟨s₂, o, h1, h2⟩ := K; exact ⟨s₂, o, h.trans h1, h2⟩
theorem cast {g' : JFrame} (q : g = g') (K : Gl p e below s P C N T g') : Gl p e below s P C N T g := q ▸ K
theorem fin (X : Stand p l e R s m args below meth c T locs cells slots) {v : Option Value} (hv : meth.sig.returnType = none → v = none) (hlk : meth.locks = false)
    (hs : ∀ fs, (∀ (f : JFrame) (acts : List Action), f.method = m → f.locked = none → f.entered = [] → (doReturn e (T.setTop f) acts v).1 = T.setFrames fs) → Steps p.tables e below (T.setTop g) (T.setFrames fs))
    (hP : P v T.heap locs) (hC : cells ≤ C) (hN : slots ≤ N) : Gl p e below s P C N T g := by
  obtain ⟨fs, hr, hrun, hended, hW, hsame⟩ := X.leave hv hlk
  exact ⟨_, _, hs fs hr, hrun, hended, _, _, rfl, hP, ⟨_, rfl⟩, hW, hsame.mono hC hN⟩
theorem retZ (X : Stand p l e R s m args below meth c T locs cells slots) (hx : p.tables.exec = Jvm.exec) (hlk : meth.locks = false) {z z' : Int32} {t : FieldType} (hret : meth.sig.returnType = some t) (ht : t = .boolean ∨ t = .byte ∨ t = .char ∨ t = .short)
    (hd : decode c.code pc = .ok (.ireturn, 1)) (hz : nar t z = z') (hP : P (some (.int z')) T.heap locs) (hC : cells ≤ C) (hN : slots ≤ N) : Gl p e below s P C N T (mkF m pc Ls (.int z :: S)) :=
  fin X (v := some (.int z')) (fun h => by rw [hret] at h; cases h) hlk (fun fs hr => by subst hz; exact RoadKit.retN X hx hret ht hd hr) hP hC hN
theorem retI (X : Stand p l e R s m args below meth c T locs cells slots) (hx : p.tables.exec = Jvm.exec) (hlk : meth.locks = false) {z : Int32} (hret : meth.sig.returnType = some .int)
    (hd : decode c.code pc = .ok (.ireturn, 1)) (hP : P (some (.int z)) T.heap locs) (hC : cells ≤ C) (hN : slots ≤ N) : Gl p e below s P C N T (mkF m pc Ls (.int z :: S)) :=
  fin X (v := some (.int z)) (fun h => by rw [hret] at h; cases h) hlk (fun fs hr => retOut X hx hret rfl (Or.inl ⟨rfl, Or.inl rfl, _, rfl⟩) hd hr) hP hC hN
theorem retL (X : Stand p l e R s m args below meth c T locs cells slots) (hx : p.tables.exec = Jvm.exec) (hlk : meth.locks = false) {z : Int64} (hret : meth.sig.returnType = some .long)
    (hd : decode c.code pc = .ok (.lreturn, 1)) (hP : P (some (.long z)) T.heap locs) (hC : cells ≤ C) (hN : slots ≤ N) : Gl p e below s P C N T (mkF m pc Ls (.long z :: S)) :=
  fin X (v := some (.long z)) (fun h => by rw [hret] at h; cases h) hlk (fun fs hr => retOut X hx hret rfl (Or.inr (Or.inl ⟨rfl, rfl, _, rfl⟩)) hd hr) hP hC hN
theorem retA (X : Stand p l e R s m args below meth c T locs cells slots) (hx : p.tables.exec = Jvm.exec) (hlk : meth.locks = false) {w : Value} {t : FieldType} (hret : meth.sig.returnType = some t) (ht : t.isReference = true) (hw : w.isRef = true) (hn : narrow t w = w)
    (hd : decode c.code pc = .ok (.areturn, 1)) (hP : P (some w) T.heap locs) (hC : cells ≤ C) (hN : slots ≤ N) : Gl p e below s P C N T (mkF m pc Ls (w :: S)) :=
  fin X (v := some w) (fun h => by rw [hret] at h; cases h) hlk (fun fs hr => retOut X hx hret hn (Or.inr (Or.inr (Or.inr (Or.inr ⟨rfl, ht, hw⟩)))) hd hr) hP hC hN
theorem ret0 (X : Stand p l e R s m args below meth c T locs cells slots) (hx : p.tables.exec = Jvm.exec) (hlk : meth.locks = false) (hret : meth.sig.returnType = none)
    (hd : decode c.code pc = .ok (.return_, 1)) (hP : P none T.heap locs) (hC : cells ≤ C) (hN : slots ≤ N) : Gl p e below s P C N T (mkF m pc Ls []) :=
  fin X (v := none) (fun _ => rfl) hlk (fun fs hr => X.returnOut hx hret hd hr) hP hC hN
/-! the branches -/
def cY : ClassFile.Cond → Int32 → Int32 → Prop
  | .eq, x, y => x = y
  | .ne, x, y => ¬ x = y
  | .lt, x, y => x < y
  | .ge, x, y => ¬ x < y
  | .gt, x, y => y < x
  | .le, x, y => ¬ y < x
def cN : ClassFile.Cond → Int32 → Int32 → Prop
  | .eq, x, y => ¬ x = y
  | .ne, x, y => x = y
  | .lt, x, y => ¬ x < y
  | .ge, x, y => x < y
  | .gt, x, y => ¬ y < x
  | .le, x, y => y < x
theorem cOr (cd : ClassFile.Cond) (x y : Int32) : (cY cd x y ∧ if_icmp.holds cd x y = true) ∨ (cN cd x y ∧ if_icmp.holds cd x y = false) := by
  cases cd with
  | eq => by_cases h : x = y; exact Or.inl ⟨h, (teq h).1⟩; exact Or.inr ⟨h, (feq h).1⟩
  | ne => by_cases h : x = y; exact Or.inr ⟨h, (teq h).2⟩; exact Or.inl ⟨h, (feq h).2⟩
  | lt => by_cases h : x < y; exact Or.inl ⟨h, (tlt h).1⟩; exact Or.inr ⟨h, (flt h).1⟩
  | ge => by_cases h : x < y; exact Or.inr ⟨h, (tlt h).2.1⟩; exact Or.inl ⟨h, (flt h).2.1⟩
  | gt => by_cases h : y < x; exact Or.inl ⟨h, (tlt h).2.2.1⟩; exact Or.inr ⟨h, (flt h).2.2.1⟩
  | le => by_cases h : y < x; exact Or.inr ⟨h, (tlt h).2.2.2⟩; exact Or.inl ⟨h, (flt h).2.2.2⟩
def lY : ClassFile.Cond → Int64 → Int64 → Prop
  | .eq, x, y => x = y
  | .ne, x, y => ¬ x = y
  | .lt, x, y => x < y
  | .ge, x, y => ¬ x < y
  | .gt, x, y => y < x
  | .le, x, y => ¬ y < x
def lN : ClassFile.Cond → Int64 → Int64 → Prop
  | .eq, x, y => ¬ x = y
  | .ne, x, y => x = y
  | .lt, x, y => ¬ x < y
  | .ge, x, y => x < y
  | .gt, x, y => ¬ y < x
  | .le, x, y => y < x
theorem lYc {cd : ClassFile.Cond} {x y : Int64} (h : cY cd (lcmpW x y) 0) : lY cd x y := by
  rw [lcW] at h
  cases cd with
  | eq => exact (lc_eq x y).mp h
  | ne => exact fun q => h ((lc_eq x y).mpr q)
  | lt => exact (lc_lt x y).mp h
  | ge => exact fun q => h ((lc_lt x y).mpr q)
  | gt => exact (lc_gt x y).mp h
  | le => exact fun q => h ((lc_gt x y).mpr q)
theorem lNc {cd : ClassFile.Cond} {x y : Int64} (h : cN cd (lcmpW x y) 0) : lN cd x y := by
  rw [lcW] at h
  cases cd with
  | eq => exact fun q => h ((lc_eq x y).mpr q)
  | ne => exact (lc_eq x y).mp h
  | lt => exact fun q => h ((lc_lt x y).mpr q)
  | ge => exact (lc_lt x y).mp h
  | gt => exact fun q => h ((lc_gt x y).mpr q)
  | le => exact (lc_gt x y).mp h
theorem icmp (X : Stand p l e R s m args below meth c T locs cells slots) (hx : p.tables.exec = Jvm.exec) {cd : ClassFile.Cond} {x y : Int32} {o : Int} (hd : decode c.code pc = .ok (.if_icmp cd o, 3)) (ho : 0 ≤ (pc : Int) + o) (hp : ((pc : Int) + o).toNat = pc') (hq : pc + 3 = pc'')
    (ky : cY cd x y → Gl p e below s P C N T (mkF m pc' Ls S)) (kn : cN cd x y → Gl p e below s P C N T (mkF m pc'' Ls S)) : Gl p e below s P C N T (mkF m pc Ls (.int y :: .int x :: S)) := by
  subst hq
  rcases cOr cd x y with ⟨h1, h2⟩ | ⟨h1, h2⟩
  · exact s1 _ (fun t k => XS.icmpYes X.here hx rfl (pc0 := pc) (pc' := pc') rfl hd rfl h2 ho hp k) (ky h1)
  · exact s1 _ (fun t k => XS.icmpNo X.here hx rfl hd rfl h2 k) (kn h1)
theorem ifc (X : Stand p l e R s m args below meth c T locs cells slots) (hx : p.tables.exec = Jvm.exec) {cd : ClassFile.Cond} {x : Int32} {o : Int} (hd : decode c.code pc = .ok (.ifCond cd o, 3)) (ho : 0 ≤ (pc : Int) + o) (hp : ((pc : Int) + o).toNat = pc') (hq : pc + 3 = pc'')
    (ky : cY cd x 0 → Gl p e below s P C N T (mkF m pc' Ls S)) (kn : cN cd x 0 → Gl p e below s P C N T (mkF m pc'' Ls S)) : Gl p e below s P C N T (mkF m pc Ls (.int x :: S)) := by
  subst hq
  rcases cOr cd x 0 with ⟨h1, h2⟩ | ⟨h1, h2⟩
  · exact s1 _ (fun t k => XS.ifYes X.here hx rfl (pc0 := pc) (pc' := pc') rfl hd rfl ((if0 _ _).trans h2) ho hp k) (ky h1)
  · exact s1 _ (fun t k => XS.ifNo X.here hx rfl hd rfl ((if0 _ _).trans h2) k) (kn h1)
theorem lif (X : Stand p l e R s m args below meth c T locs cells slots) (hx : p.tables.exec = Jvm.exec) {cd : ClassFile.Cond} {x y : Int64} {o : Int} (hd1 : decode c.code pc = .ok (.lcmp, 1)) {pc1 : Nat} (h1 : pc + 1 = pc1) (hd : decode c.code pc1 = .ok (.ifCond cd o, 3)) (ho : 0 ≤ (pc1 : Int) + o) (hp : ((pc1 : Int) + o).toNat = pc') (hq : pc1 + 3 = pc'')
    (ky : lY cd x y → Gl p e below s P C N T (mkF m pc' Ls S)) (kn : lN cd x y → Gl p e below s P C N T (mkF m pc'' Ls S)) : Gl p e below s P C N T (mkF m pc Ls (.long y :: .long x :: S)) := by
  subst h1
  exact s1 (mkF m (pc + 1) Ls (.int (lcmpW x y) :: S)) (fun t k => XS.lcmp X.here hx rfl hd1 rfl k) (ifc X hx hd ho hp hq (fun h => ky (lYc h)) (fun h => kn (lNc h)))
end Walk
/-! arrays of ints and of longs, by what each place holds -/
section Arrays
variable {Z : State} {h h' : Heap} {a b : Addr} {ty : FieldType} {n : Nat} {f : Nat → Int32} {q : Nat → Int64}
def up {α : Type} (f : Nat → α) (j : Nat) (v : α) : Nat → α := fun k => if k = j then v else f k
theorem up_same {α : Type} (f : Nat → α) (j : Nat) (v : α) : up f j v j = v := if_pos rfl
theorem up_other {α : Type} (f : Nat → α) {j k : Nat} (v : α) (h : ¬ k = j) : up f j v k = f k := if_neg h
def AI (Z : State) (h : Heap) (a : Addr) (ty : FieldType) (n : Nat) (f : Nat → Int32) : Prop := ∃ c : Cell, Arr Z h a c ty ∧ c.slots.size = n ∧ ∀ k, k < n → c.slots[k]? = some (.int (f k))
def AJ (Z : State) (h : Heap) (a : Addr) (n : Nat) (f : Nat → Int64) : Prop := ∃ c : Cell, Arr Z h a c .long ∧ c.slots.size = n ∧ ∀ k, k < n → c.slots[k]? = some (.long (f k))
theorem AI.lt (F : AI Z h a ty n f) : a < h.size := by obtain ⟨c, A, -⟩ := F; exact A.lt
theorem AJ.lt (F : AJ Z h a n q) : a < h.size := by obtain ⟨c, A, -⟩ := F; exact A.lt
theorem AI.ext (F : AI Z h a ty n f) (E : Ext h h') : AI Z h' a ty n f := by obtain ⟨c, A, r⟩ := F; exact ⟨c, A.ext E, r⟩
theorem AJ.ext (F : AJ Z h a n q) (E : Ext h h') : AJ Z h' a n q := by obtain ⟨c, A, r⟩ := F; exact ⟨c, A.ext E, r⟩
theorem AI.other {sl : Nat} {v : Value} (F : AI Z h b ty n f) (W : Wr h h' a sl v) (e : b ≠ a) : AI Z h' b ty n f := by obtain ⟨c, A, r⟩ := F; exact ⟨c, A.other W e, r⟩
theorem AJ.other {sl : Nat} {v : Value} (F : AJ Z h b n q) (W : Wr h h' a sl v) (e : b ≠ a) : AJ Z h' b n q := by obtain ⟨c, A, r⟩ := F; exact ⟨c, A.other W e, r⟩
theorem AI.keep {ws : List Addr} (F : AI Z h a ty n f) (K : Keep h h' ws) (e : a ∉ ws) : AI Z h' a ty n f := by obtain ⟨c, A, r⟩ := F; exact ⟨c, ⟨K.2.1 a c A.1 e, A.2⟩, r⟩
theorem AJ.keep {ws : List Addr} (F : AJ Z h a n q) (K : Keep h h' ws) (e : a ∉ ws) : AJ Z h' a n q := by obtain ⟨c, A, r⟩ := F; exact ⟨c, ⟨K.2.1 a c A.1 e, A.2⟩, r⟩
theorem slots_set {c : Cell} {j k : Nat} {v : Value} (hj : j < c.slots.size) : (c.setSlot j v).slots[k]? = if k = j then some v else c.slots[k]? := by
  by_cases e : k = j
  · subst e; simp [Cell.setSlot, hj]
  · simp only [Cell.setSlot, if_neg e]; exact Array.getElem?_setIfInBounds_ne (Ne.symm e)
theorem AI.set {j : Nat} {v : Int32} (F : AI Z h a ty n f) (W : Wr h h' a j (.int v)) (hj : j < n) : AI Z h' a ty n (up f j v) := by
  obtain ⟨c, A, r1, r2⟩ := F
  refine ⟨_, A.same W, by rw [sz_set]; exact r1, fun k hk => ?_⟩
  rw [slots_set (by omega)]
  by_cases e : k = j
  · rw [if_pos e, e, up_same]
  · rw [if_neg e, up_other _ _ e]; exact r2 k hk
theorem AJ.set {j : Nat} {v : Int64} (F : AJ Z h a n q) (W : Wr h h' a j (.long v)) (hj : j < n) : AJ Z h' a n (up q j v) := by
  obtain ⟨c, A, r1, r2⟩ := F
  refine ⟨_, A.same W, by rw [sz_set]; exact r1, fun k hk => ?_⟩
  rw [slots_set (by omega)]
  by_cases e : k = j
  · rw [if_pos e, e, up_same]
  · rw [if_neg e, up_other _ _ e]; exact r2 k hk
theorem clamp {z : Int32} (hz : z.toInt = n) : z.toNatClampNeg = n := by simp only [Int32.toNatClampNeg]; omega
theorem AI.new {k : ClassId} {z : Int32} (A : Arr Z h a (newA k ty z) ty) (hz : z.toInt = n) (hd : defaultValue ty = .int 0) : AI Z h a ty n (fun _ => 0) :=
  ⟨_, A, by rw [sz_new]; exact clamp hz, fun i hi => by rw [← clamp hz] at hi; simp [newA, hi, hd]⟩
theorem AJ.new {k : ClassId} {z : Int32} (A : Arr Z h a (newA k .long z) .long) (hz : z.toInt = n) : AJ Z h a n (fun _ => 0) :=
  ⟨_, A, by rw [sz_new]; exact clamp hz, fun i hi => by rw [← clamp hz] at hi; simp [newA, hi, defaultValue]⟩
theorem AI.congr {f' : Nat → Int32} (F : AI Z h a ty n f) (e : ∀ k, k < n → f' k = f k) : AI Z h a ty n f' := by obtain ⟨c, A, r1, r2⟩ := F; exact ⟨c, A, r1, fun k hk => by rw [e k hk]; exact r2 k hk⟩
theorem AJ.congr {f' : Nat → Int64} (F : AJ Z h a n q) (e : ∀ k, k < n → f' k = q k) : AJ Z h a n f' := by obtain ⟨c, A, r1, r2⟩ := F; exact ⟨c, A, r1, fun k hk => by rw [e k hk]; exact r2 k hk⟩
theorem inb {j : Int32} {k sz : Nat} (hj : j.toInt = k) (hk : k < sz) : ¬ (j < 0 ∨ sz ≤ j.toNatClampNeg) := by
  rw [clamp hj, Int32.lt_iff_toInt_lt, hj, show (0 : Int32).toInt = 0 from rfl]; omega
theorem szI {z : Int32} (hz : z.toInt = n) : Nat.toInt32 n = z := by
  rw [← Int32.toInt_inj, len_toInt (by have := z.toInt_lt; omega), hz]
end Arrays
section Steps
variable {p : Program} {l : Launch} {e : Env} {R : Room} {s : State} {m : MethodId} {args : Array Value} {below : List Frame} {meth : Method} {c : Code} {T T' : State} {locs : List Loc} {cells slots : Nat} {P : Option Value → Heap → List Loc → Prop} {C N : Nat} {Ls : Array Slot} {S : List Value} {pc pc' : Nat} {Z : State} {h : Heap} {a : Addr} {n n0 : Nat} {f : Nat → Int32} {q : Nat → Int64} {a0 : Array Value} {ty : FieldType}
theorem getf (X : Stand p l e R s m args below meth c T locs cells slots) (hx : p.tables.exec = Jvm.exec) (hZ : Z.Warmed39 s.vm) {own R0 O n d host : String} {index : Nat} (hown : s.vm.findClass own = some m.cls) (w : (Cond.fieldLink own index R0 n d).before a0 Z = true ∨ (Cond.fieldLinkNest own index R0 n d host).before a0 Z = true) (via : Via Z R0 O n d)
    (eT : T.heap = h) {v : Value} (F : Fld Z h a O n d v) (hd : decode c.code pc = .ok (.getfield index, 3)) (hq : pc + 3 = pc') (K : ∀ T', Stand p l e R s m args below meth c T' locs cells slots → T'.heap = h → Gl p e below s P C N T' (mkF m pc' Ls (v :: S))) : Gl p e below s P C N T (mkF m pc Ls (.ref a :: S)) := by
  subst hq
  obtain ⟨T', X', e', st⟩ := getF X hx hZ hown w via eT F (g := mkF m pc Ls (.ref a :: S)) rfl rfl hd
  exact s2 _ st (K T' X' e')
theorem gets (X : Stand p l e R s m args below meth c T locs cells slots) (hx : p.tables.exec = Jvm.exec) (hZ : Z.Warmed39 s.vm) {own R0 O n d host : String} {index : Nat} (hown : s.vm.findClass own = some m.cls) (w : (Cond.fieldLink own index R0 n d).before a0 Z = true ∨ (Cond.fieldLinkNest own index R0 n d host).before a0 Z = true) (via : Via Z R0 O n d)
    (eT : T.heap = h) {v : Value} (F : Sta Z h O n d v) (hd : decode c.code pc = .ok (.getstatic index, 3)) (hq : pc + 3 = pc') (K : ∀ T', Stand p l e R s m args below meth c T' locs cells slots → T'.heap = h → Gl p e below s P C N T' (mkF m pc' Ls (v :: S))) : Gl p e below s P C N T (mkF m pc Ls S) := by
  subst hq
  obtain ⟨T', X', e', st⟩ := getS2 X hx hZ hown w via eT F (g := mkF m pc Ls S) rfl hd
  exact s2 _ st (K T' X' e')
theorem putf (X : Stand p l e R s m args below meth c T locs cells slots) (hx : p.tables.exec = Jvm.exec) (hZ : Z.Warmed39 s.vm) {own R0 O n d host Cl : String} {index kk : Nat} (hown : s.vm.findClass own = some m.cls) (w : (Cond.fieldLink own index R0 n d).before a0 Z = true ∨ (Cond.fieldLinkNest own index R0 n d host).before a0 Z = true) (via : Via Z R0 O n d)
    (eT : T.heap = h) {v old : Value} (F : Fld Z h a O n d old) (E : Exa Z h a Cl) (L : (Cond.lays Cl O n d).before a0 Z = true ∨ ((Cond.laysFinal Cl O n d).before a0 Z = true ∧ own = O ∧ meth.name = "<init>")) (wi : (Cond.instantiable Cl kk).before a0 Z = true)
    (hty : parseFieldDescriptor d = some ty) (hn : narrow ty v = v) (hf : fits ty v = true) (N0 : Fr n0 locs) (ga : n0 ≤ a) (hd : decode c.code pc = .ok (.putfield index, 3)) (hq : pc + 3 = pc')
    (K : ∀ T' h' L', Stand p l e R s m args below meth c T' L' cells slots → T'.heap = h' → Wr h h' a (RoadKit.slotOf Z O n d) v → Fld Z h' a O n d v → Fr n0 L' → Gl p e below s P C N T' (mkF m pc' Ls S)) : Gl p e below s P C N T (mkF m pc Ls (v :: .ref a :: S)) := by
  subst hq
  obtain ⟨T', h', X', e', W, st⟩ := putF X hx hZ hown w via eT F E L wi hty hn hf (g := mkF m pc Ls (v :: .ref a :: S)) rfl rfl hd
  exact s2 _ st (K T' h' _ X' e' W (F.same W) (Fr.snoc X' N0 ga))
theorem newo (X : Stand p l e R s m args below meth c T locs cells slots) (hx : p.tables.exec = Jvm.exec) (hZ : Z.Warmed39 s.vm) {own Cl : String} {index n : Nat} (hown : s.vm.findClass own = some m.cls) (w : (Cond.classLink own index Cl).before a0 Z = true) (wi : (Cond.instantiable Cl n).before a0 Z = true) (wz : (Cond.initialized Cl).before a0 Z = true) (eT : T.heap = h)
    (hd : decode c.code pc = .ok (.new index, 3)) (hc : cells + 1 ≤ R.cells) (hl : slots + n ≤ R.slots) (hq : pc + 3 = pc')
    (K : ∀ T' h' a, Stand p l e R s m args below meth c T' locs (cells + 1) (slots + n) → T'.heap = h' → Ext h h' → a = h.size → Exa Z h' a Cl → (∀ {O nm d : String} {ty : FieldType}, Laid Z a0 Cl O nm d → parseFieldDescriptor d = some ty → Fld Z h' a O nm d (defaultValue ty)) → Gl p e below s P C N T' (mkF m pc' Ls (.ref a :: S))) : Gl p e below s P C N T (mkF m pc Ls S) := by
  subst hq
  obtain ⟨T', h', X', e', E, A, D, -, st⟩ := newO X hx hZ hown w wi wz eT (g := mkF m pc Ls S) rfl hd hc hl
  exact s2 _ st (K T' h' _ X' e' E rfl A D)
theorem newi (X : Stand p l e R s m args below meth c T locs cells slots) (hx : p.tables.exec = Jvm.exec) (hZ : Z.Warmed39 s.vm) {aty : ArrayType} (w : (Cond.arrayClass ty).before a0 Z = true) (hty : newarray.typeOf aty = ty) (hdv : defaultValue ty = .int 0) (eT : T.heap = h) {z : Int32} (hd : decode c.code pc = .ok (.newarray aty, 2)) (hz : z.toInt = n) {cap : Nat} (hcap : n ≤ cap) (hb : cap * 8 ≤ 536870912) (hc : cells + 1 ≤ R.cells) (hl : slots + cap ≤ R.slots) (hq : pc + 2 = pc')
    (K : ∀ T' h' a, Stand p l e R s m args below meth c T' locs (cells + 1) (slots + cap) → T'.heap = h' → Ext h h' → a = h.size → AI Z h' a ty n (fun _ => 0) → Gl p e below s P C N T' (mkF m pc' Ls (.ref a :: S))) : Gl p e below s P C N T (mkF m pc Ls (.int z :: S)) := by
  subst hq hty
  obtain ⟨T', h', k, X', e', E, A, st⟩ := newP X hx hZ w eT (g := mkF m pc Ls (.int z :: S)) rfl hd rfl (by rw [Int32.lt_iff_toInt_lt, hz, show (0 : Int32).toInt = 0 from rfl]; omega) (cap := cap) (by rw [clamp hz]; exact hcap) hb hc hl
  exact s2 _ st (K T' h' _ X' e' E rfl (AI.new A hz hdv))
theorem newj (X : Stand p l e R s m args below meth c T locs cells slots) (hx : p.tables.exec = Jvm.exec) (hZ : Z.Warmed39 s.vm) (w : (Cond.arrayClass .long).before a0 Z = true) (eT : T.heap = h) {z : Int32} (hd : decode c.code pc = .ok (.newarray .long, 2)) (hz : z.toInt = n) {cap : Nat} (hcap : n ≤ cap) (hb : cap * 8 ≤ 536870912) (hc : cells + 1 ≤ R.cells) (hl : slots + cap ≤ R.slots) (hq : pc + 2 = pc')
    (K : ∀ T' h' a, Stand p l e R s m args below meth c T' locs (cells + 1) (slots + cap) → T'.heap = h' → Ext h h' → a = h.size → AJ Z h' a n (fun _ => 0) → Gl p e below s P C N T' (mkF m pc' Ls (.ref a :: S))) : Gl p e below s P C N T (mkF m pc Ls (.int z :: S)) := by
  subst hq
  obtain ⟨T', h', k, X', e', E, A, st⟩ := newP X hx hZ (aty := .long) w eT (g := mkF m pc Ls (.int z :: S)) rfl hd rfl (by rw [Int32.lt_iff_toInt_lt, hz, show (0 : Int32).toInt = 0 from rfl]; omega) (cap := cap) (by rw [clamp hz]; exact hcap) hb hc hl
  exact s2 _ st (K T' h' _ X' e' E rfl (AJ.new A hz))
theorem ldi (X : Stand p l e R s m args below meth c T locs cells slots) (hx : p.tables.exec = Jvm.exec) (hZ : Z.Warmed39 s.vm) (eT : T.heap = h) (F : AI Z h a .int n f) {j : Int32} (k : Nat) (hj : j.toInt = k) (hk : k < n) (hd : decode c.code pc = .ok (.iaload, 1)) (hq : pc + 1 = pc')
    (K : Gl p e below s P C N T (mkF m pc' Ls (.int (f k) :: S))) : Gl p e below s P C N T (mkF m pc Ls (.int j :: .ref a :: S)) := by
  subst hq
  obtain ⟨cl, A, r1, r2⟩ := F
  exact s1 _ (fun t q => X.iaload hx (v := .int (f k)) (by rw [eT]; exact A.1) (State.isArrayOf_alike hZ.alike A.2.1) A.2.2 (inb hj (by omega)) (by rw [clamp hj]; exact r2 k hk) (g := mkF m pc Ls (.int j :: .ref a :: S)) rfl rfl hd t q) K
theorem ldz (X : Stand p l e R s m args below meth c T locs cells slots) (hx : p.tables.exec = Jvm.exec) (hZ : Z.Warmed39 s.vm) (eT : T.heap = h) (F : AI Z h a .boolean n f) {j : Int32} (k : Nat) (hj : j.toInt = k) (hk : k < n) (hd : decode c.code pc = .ok (.baload, 1)) (hq : pc + 1 = pc')
    (K : Gl p e below s P C N T (mkF m pc' Ls (.int (f k) :: S))) : Gl p e below s P C N T (mkF m pc Ls (.int j :: .ref a :: S)) := by
  subst hq
  obtain ⟨cl, A, r1, r2⟩ := F
  exact s1 _ (fun t q => X.baloadBooleans hx (v := .int (f k)) (by rw [eT]; exact A.1) (State.isArrayOf_alike hZ.alike A.2.1) A.2.2 (inb hj (by omega)) (by rw [clamp hj]; exact r2 k hk) (g := mkF m pc Ls (.int j :: .ref a :: S)) rfl rfl hd t q) K
theorem ldb (X : Stand p l e R s m args below meth c T locs cells slots) (hx : p.tables.exec = Jvm.exec) (hZ : Z.Warmed39 s.vm) (eT : T.heap = h) (F : AI Z h a .byte n f) {j : Int32} (k : Nat) (hj : j.toInt = k) (hk : k < n) (hd : decode c.code pc = .ok (.baload, 1)) (hq : pc + 1 = pc')
    (K : Gl p e below s P C N T (mkF m pc' Ls (.int (f k) :: S))) : Gl p e below s P C N T (mkF m pc Ls (.int j :: .ref a :: S)) := by
  subst hq
  obtain ⟨cl, A, r1, r2⟩ := F
  exact s1 _ (fun t q => X.baloadBytes hx (v := .int (f k)) (by rw [eT]; exact A.1) (State.isArrayOf_alike hZ.alike A.2.1) A.2.2 (inb hj (by omega)) (by rw [clamp hj]; exact r2 k hk) (g := mkF m pc Ls (.int j :: .ref a :: S)) rfl rfl hd t q) K
theorem ldj (X : Stand p l e R s m args below meth c T locs cells slots) (hx : p.tables.exec = Jvm.exec) (hZ : Z.Warmed39 s.vm) (eT : T.heap = h) (F : AJ Z h a n q) {j : Int32} (k : Nat) (hj : j.toInt = k) (hk : k < n) (hd : decode c.code pc = .ok (.laload, 1)) (hq : pc + 1 = pc')
    (K : Gl p e below s P C N T (mkF m pc' Ls (.long (q k) :: S))) : Gl p e below s P C N T (mkF m pc Ls (.int j :: .ref a :: S)) := by
  subst hq
  obtain ⟨cl, A, r1, r2⟩ := F
  exact s1 _ (fun t u => X.laload hx (v := .long (q k)) (by rw [eT]; exact A.1) (State.isArrayOf_alike hZ.alike A.2.1) A.2.2 (inb hj (by omega)) (by rw [clamp hj]; exact r2 k hk) (g := mkF m pc Ls (.int j :: .ref a :: S)) rfl rfl hd t u) K
theorem alen (X : Stand p l e R s m args below meth c T locs cells slots) (hx : p.tables.exec = Jvm.exec) (hZ : Z.Warmed39 s.vm) (eT : T.heap = h) (F : AI Z h a ty n f) {z : Int32} (hz : z.toInt = n) (hd : decode c.code pc = .ok (.arraylength, 1)) (hq : pc + 1 = pc')
    (K : Gl p e below s P C N T (mkF m pc' Ls (.int z :: S))) : Gl p e below s P C N T (mkF m pc Ls (.ref a :: S)) := by
  subst hq
  obtain ⟨cl, A, r1, r2⟩ := F
  exact s1 _ (fun t u => X.arraylength hx (by rw [eT]; exact A.1) (State.isArrayOf_alike hZ.alike A.2.1) (g := mkF m pc Ls (.ref a :: S)) rfl rfl hd t (by rw [r1, szI hz]; exact u)) K
theorem alenJ (X : Stand p l e R s m args below meth c T locs cells slots) (hx : p.tables.exec = Jvm.exec) (hZ : Z.Warmed39 s.vm) (eT : T.heap = h) (F : AJ Z h a n q) {z : Int32} (hz : z.toInt = n) (hd : decode c.code pc = .ok (.arraylength, 1)) (hq : pc + 1 = pc')
    (K : Gl p e below s P C N T (mkF m pc' Ls (.int z :: S))) : Gl p e below s P C N T (mkF m pc Ls (.ref a :: S)) := by
  subst hq
  obtain ⟨cl, A, r1, r2⟩ := F
  exact s1 _ (fun t u => X.arraylength hx (by rw [eT]; exact A.1) (State.isArrayOf_alike hZ.alike A.2.1) (g := mkF m pc Ls (.ref a :: S)) rfl rfl hd t (by rw [r1, szI hz]; exact u)) K
theorem sti (X : Stand p l e R s m args below meth c T locs cells slots) (hx : p.tables.exec = Jvm.exec) (hZ : Z.Warmed39 s.vm) (eT : T.heap = h) (F : AI Z h a .int n f) {j x : Int32} (k : Nat) (hj : j.toInt = k) (hk : k < n) (N0 : Fr n0 locs) (ga : n0 ≤ a) (hd : decode c.code pc = .ok (.iastore, 1)) (hq : pc + 1 = pc')
    (K : ∀ T' h' L', Stand p l e R s m args below meth c T' L' cells slots → T'.heap = h' → Wr h h' a k (.int x) → AI Z h' a .int n (up f k x) → Fr n0 L' → Gl p e below s P C N T' (mkF m pc' Ls S)) : Gl p e below s P C N T (mkF m pc Ls (.int x :: .int j :: .ref a :: S)) := by
  subst hq
  obtain ⟨cl, A, r1, r2⟩ := F
  obtain ⟨T', h', X', e', W, st⟩ := stI X hx hZ eT A (inb hj (by omega)) (g := mkF m pc Ls (.int x :: .int j :: .ref a :: S)) rfl rfl hd
  have N1 := Fr.snoc X' N0 ga
  rw [clamp hj] at W
  exact s2 _ st (K T' h' _ X' e' W (AI.set ⟨cl, A, r1, r2⟩ W hk) N1)
theorem stz (X : Stand p l e R s m args below meth c T locs cells slots) (hx : p.tables.exec = Jvm.exec) (hZ : Z.Warmed39 s.vm) (eT : T.heap = h) (F : AI Z h a .boolean n f) {j x x' : Int32} (hn : nar .boolean x = x') (k : Nat) (hj : j.toInt = k) (hk : k < n) (N0 : Fr n0 locs) (ga : n0 ≤ a) (hd : decode c.code pc = .ok (.bastore, 1)) (hq : pc + 1 = pc')
    (K : ∀ T' h' L', Stand p l e R s m args below meth c T' L' cells slots → T'.heap = h' → Wr h h' a k (.int x') → AI Z h' a .boolean n (up f k x') → Fr n0 L' → Gl p e below s P C N T' (mkF m pc' Ls S)) : Gl p e below s P C N T (mkF m pc Ls (.int x :: .int j :: .ref a :: S)) := by
  subst hq hn
  obtain ⟨cl, A, r1, r2⟩ := F
  obtain ⟨T', h', X', e', W, st⟩ := stZ X hx hZ eT A (inb hj (by omega)) (g := mkF m pc Ls (.int x :: .int j :: .ref a :: S)) rfl rfl hd
  have N1 := Fr.snoc X' N0 ga
  rw [clamp hj] at W
  exact s2 _ st (K T' h' _ X' e' W (AI.set ⟨cl, A, r1, r2⟩ W hk) N1)
theorem stb (X : Stand p l e R s m args below meth c T locs cells slots) (hx : p.tables.exec = Jvm.exec) (hZ : Z.Warmed39 s.vm) (eT : T.heap = h) (F : AI Z h a .byte n f) {j x x' : Int32} (hn : nar .byte x = x') (k : Nat) (hj : j.toInt = k) (hk : k < n) (N0 : Fr n0 locs) (ga : n0 ≤ a) (hd : decode c.code pc = .ok (.bastore, 1)) (hq : pc + 1 = pc')
    (K : ∀ T' h' L', Stand p l e R s m args below meth c T' L' cells slots → T'.heap = h' → Wr h h' a k (.int x') → AI Z h' a .byte n (up f k x') → Fr n0 L' → Gl p e below s P C N T' (mkF m pc' Ls S)) : Gl p e below s P C N T (mkF m pc Ls (.int x :: .int j :: .ref a :: S)) := by
  subst hq hn
  obtain ⟨cl, A, r1, r2⟩ := F
  obtain ⟨T', h', X', e', W, st⟩ := stB X hx hZ eT A (inb hj (by omega)) (g := mkF m pc Ls (.int x :: .int j :: .ref a :: S)) rfl rfl hd
  have N1 := Fr.snoc X' N0 ga
  rw [clamp hj] at W
  exact s2 _ st (K T' h' _ X' e' W (AI.set ⟨cl, A, r1, r2⟩ W hk) N1)
theorem stj (X : Stand p l e R s m args below meth c T locs cells slots) (hx : p.tables.exec = Jvm.exec) (hZ : Z.Warmed39 s.vm) (eT : T.heap = h) (F : AJ Z h a n q) {j : Int32} {x : Int64} (k : Nat) (hj : j.toInt = k) (hk : k < n) (N0 : Fr n0 locs) (ga : n0 ≤ a) (hd : decode c.code pc = .ok (.lastore, 1)) (hq : pc + 1 = pc')
    (K : ∀ T' h' L', Stand p l e R s m args below meth c T' L' cells slots → T'.heap = h' → Wr h h' a k (.long x) → AJ Z h' a n (up q k x) → Fr n0 L' → Gl p e below s P C N T' (mkF m pc' Ls S)) : Gl p e below s P C N T (mkF m pc Ls (.long x :: .int j :: .ref a :: S)) := by
  subst hq
  obtain ⟨cl, A, r1, r2⟩ := F
  obtain ⟨T', h', X', e', W, st⟩ := stJ X hx hZ eT A (inb hj (by omega)) (g := mkF m pc Ls (.long x :: .int j :: .ref a :: S)) rfl rfl hd
  have N1 := Fr.snoc X' N0 ga
  rw [clamp hj] at W
  exact s2 _ st (K T' h' _ X' e' W (AJ.set ⟨cl, A, r1, r2⟩ W hk) N1)
end Steps
end Jvm.Pilot.@@N@@.W
namespace Jvm.Pilot.@@N@@
open Jvm Jvm.ClassFile Sem Op Lib Jvm.Free Jvm.Stand Jvm.LawKit Jvm.RoadKit Bundle Jvm.Pilot.@@N@@.Jvm.D
theorem own_l0 : (0 : Int32).toInt = 0 := rfl
theorem own_l9 : (9 : Int32).toInt = 9 := rfl
theorem own_l10 : (10 : Int32).toInt = 10 := rfl
theorem own_l13 : (13 : Int32).toInt = 13 := rfl
theorem own_l32 : (32 : Int32).toInt = 32 := rfl
theorem own_l55296 : (55296 : Int32).toInt = 55296 := rfl
theorem own_l57343 : (57343 : Int32).toInt = 57343 := rfl
theorem own_l65533 : (65533 : Int32).toInt = 65533 := rfl
theorem own_l65534 : (65534 : Int32).toInt = 65534 := rfl
theorem own_l65535 : (65535 : Int32).toInt = 65535 := rfl
theorem own_l65536 : (65536 : Int32).toInt = 65536 := rfl
theorem own_l1114111 : (1114111 : Int32).toInt = 1114111 := rfl
def own_ok (t : Int) : Prop := t = 9 ∨ t = 10 ∨ t = 13 ∨ (32 ≤ t ∧ t ≤ 55295) ∨ (57344 ≤ t ∧ t ≤ 65533) ∨ (65536 ≤ t ∧ t ≤ 1114111)
theorem own_k15 (x : Int32) : ∃ k : Nat, (x &&& (15 : Int32)).toInt = k ∧ k < 16 := by
  have := c_mask x 15 4 (by decide) rfl
  exact ⟨((x &&& (15 : Int32)).toInt).toNat, by omega, by omega⟩
theorem pn_0 : plainName "com/example/stummel/stummel/io/XmlReader" = true := by first | (simp [plainName, overriddenIn]; done) | decide +kernel
theorem ef_1 (m : MethodId) (x0 : Int32) : entryFrame m #[(.int x0)] 1 = mkF m 0 #[.val (.int x0)] [] := by first | (simp [entryFrame, mkF, argsToLocals, Value.category]; done) | rfl
theorem d1_0 : decode prog_45_method_79_code 0 = .ok (.iload_n 0, 1) := by decide +kernel
theorem d1_1 : decode prog_45_method_79_code 1 = .ok (.bipush 32, 2) := by decide +kernel
theorem d1_3 : decode prog_45_method_79_code 3 = .ok (.if_icmp .lt 10, 3) := by decide +kernel
theorem d1_13 : decode prog_45_method_79_code 13 = .ok (.iload_n 0, 1) := by decide +kernel
theorem d1_14 : decode prog_45_method_79_code 14 = .ok (.bipush 10, 2) := by decide +kernel
theorem d1_16 : decode prog_45_method_79_code 16 = .ok (.if_icmp .eq 42, 3) := by decide +kernel
theorem d1_58 : decode prog_45_method_79_code 58 = .ok (.iconst 1, 1) := by decide +kernel
theorem d1_59 : decode prog_45_method_79_code 59 = .ok (.goto 4, 3) := by decide +kernel
theorem d1_63 : decode prog_45_method_79_code 63 = .ok (.ireturn, 1) := by decide +kernel
theorem d1_19 : decode prog_45_method_79_code 19 = .ok (.iload_n 0, 1) := by decide +kernel
theorem d1_20 : decode prog_45_method_79_code 20 = .ok (.bipush 9, 2) := by decide +kernel
theorem d1_22 : decode prog_45_method_79_code 22 = .ok (.if_icmp .eq 36, 3) := by decide +kernel
theorem d1_25 : decode prog_45_method_79_code 25 = .ok (.iload_n 0, 1) := by decide +kernel
theorem d1_26 : decode prog_45_method_79_code 26 = .ok (.bipush 13, 2) := by decide +kernel
theorem d1_28 : decode prog_45_method_79_code 28 = .ok (.if_icmp .eq 30, 3) := by decide +kernel
theorem d1_31 : decode prog_45_method_79_code 31 = .ok (.iload_n 0, 1) := by decide +kernel
theorem d1_32 : decode prog_45_method_79_code 32 = .ok (.ldc_w 801, 3) := by decide +kernel
theorem d1_35 : decode prog_45_method_79_code 35 = .ok (.if_icmp .le 10, 3) := by decide +kernel
theorem d1_45 : decode prog_45_method_79_code 45 = .ok (.iload_n 0, 1) := by decide +kernel
theorem d1_46 : decode prog_45_method_79_code 46 = .ok (.ldc 9, 2) := by decide +kernel
theorem d1_48 : decode prog_45_method_79_code 48 = .ok (.if_icmp .lt 14, 3) := by decide +kernel
theorem d1_62 : decode prog_45_method_79_code 62 = .ok (.iconst 0, 1) := by decide +kernel
theorem d1_51 : decode prog_45_method_79_code 51 = .ok (.iload_n 0, 1) := by decide +kernel
theorem d1_52 : decode prog_45_method_79_code 52 = .ok (.ldc_w 743, 3) := by decide +kernel
theorem d1_55 : decode prog_45_method_79_code 55 = .ok (.if_icmp .gt 7, 3) := by decide +kernel
theorem d1_38 : decode prog_45_method_79_code 38 = .ok (.iload_n 0, 1) := by decide +kernel
theorem d1_39 : decode prog_45_method_79_code 39 = .ok (.ldc_w 851, 3) := by decide +kernel
theorem d1_42 : decode prog_45_method_79_code 42 = .ok (.if_icmp .le 16, 3) := by decide +kernel
theorem d1_6 : decode prog_45_method_79_code 6 = .ok (.iload_n 0, 1) := by decide +kernel
theorem d1_7 : decode prog_45_method_79_code 7 = .ok (.ldc_w 800, 3) := by decide +kernel
theorem d1_10 : decode prog_45_method_79_code 10 = .ok (.if_icmp .lt 48, 3) := by decide +kernel
def Q1 (Z : State) (xp : Int32) (h0 : Heap) (n0 : Nat) (v : Option Value) (h : Heap) (L : List Loc) : Prop := ∃ r : Int32, v = some (.int r) ∧ Fr n0 L ∧ h = h0 ∧ ((r = 1 ∧ own_ok xp.toInt) ∨ (r = 0 ∧ ¬ own_ok xp.toInt))
set_option maxRecDepth 65536 in
set_option maxHeartbeats 40000000 in
theorem rm1 (l : Launch) (Z : State) (a0 : Array Value) (hw : ∀ d ∈ tables_1, d.before a0 Z = true) (ws : List Jvm.Cond) (xp : Int32) (h0 : Heap) (n0 : Nat) (Z0 : n0 ≤ h0.size) :
    MetFree l (⟨"com/example/stummel/stummel/io/XmlReader", "isXmlCharacter", "(I)Z"⟩ : MethodName) (head1 (Jvm.Cond.code (⟨"com/example/stummel/stummel/io/XmlReader", "isXmlCharacter", "(I)Z"⟩ : MethodName) prog_45_method_79_code 1 (some .boolean) :: ws) ({ frames := 0, cells := 0, slots := 0, locals := 0 } : Room)) (fun a U => a = #[(.int xp)] ∧ Z.Warmed39 U.vm ∧ U.heap = h0) (fun _ _ _ _ _ => True) (fun _ U o U' => ∃ v L, o = .returned v ∧ Q1 Z xp h0 n0 v U'.heap L ∧ FrameEnd U o U' L ({ frames := 0, cells := 0, slots := 0, locals := 0 } : Room).cells ({ frames := 0, cells := 0, slots := 0, locals := 0 } : Room).slots) := by
  refine MetFree.of_bodySF (plainFor_of_name pn_0) hisR ?_
  intro p e s m args below meth c s₁ Bd hml0 hP hK
  obtain ⟨rfl, hZ, hh⟩ := hP
  have hx := Bd.exec
  have hby := Bd.bytes
  have hml : c.maxLocals = 1 := hml0
  have hown : s.vm.findClass "com/example/stummel/stummel/io/XmlReader" = some m.cls := findClass_of_methodNamed Bd.named
  have hnm := (name_of_methodNamed Bd.named Bd.method).1
  have hlk : meth.locks = false := BodyLoose.notSynchronized Bd
  have X0 : Stand p l e ({ frames := 0, cells := 0, slots := 0, locals := 0 } : Room) s m #[(.int xp)] below meth c s₁ [] 0 0 := Stand.of_body Bd
  have e0 : s₁.heap = h0 := by rw [← hh, Bd.state]; rfl
  have N0 := Fr.nil n0
  show W.Gl p e below s (Q1 Z xp h0 n0) ({ frames := 0, cells := 0, slots := 0, locals := 0 } : Room).cells ({ frames := 0, cells := 0, slots := 0, locals := 0 } : Room).slots s₁ (entryFrame m #[(.int xp)] 1)
  refine W.cast (ef_1 m xp) ?_
  refine W.s1 (mkF m 1 #[.val (.int xp)] [(.int xp)]) (fun _ kx_ => XS.iloadN X0.here hx rfl (hb hby d1_0) rfl kx_) ?_
  refine W.s1 (mkF m 3 #[.val (.int xp)] [(.int (32 : Int32)), (.int xp)]) (fun _ kx_ => XS.bipush X0.here hx rfl (hb hby d1_1) kx_) ?_
  refine W.icmp X0 hx (hb hby d1_3) (pc' := 13) (pc'' := 6) (by decide) (by decide) rfl (fun (c3 : xp < (32 : Int32)) => ?_) (fun (c3 : ¬ xp < (32 : Int32)) => ?_)
  · refine W.s1 (mkF m 14 #[.val (.int xp)] [(.int xp)]) (fun _ kx_ => XS.iloadN X0.here hx rfl (hb hby d1_13) rfl kx_) ?_
    refine W.s1 (mkF m 16 #[.val (.int xp)] [(.int (10 : Int32)), (.int xp)]) (fun _ kx_ => XS.bipush X0.here hx rfl (hb hby d1_14) kx_) ?_
    refine W.icmp X0 hx (hb hby d1_16) (pc' := 58) (pc'' := 19) (by decide) (by decide) rfl (fun (c16 : xp = (10 : Int32)) => ?_) (fun (c16 : ¬ xp = (10 : Int32)) => ?_)
    · refine W.s1 (mkF m 59 #[.val (.int xp)] [(.int (1 : Int32))]) (fun _ kx_ => XS.iconst X0.here hx rfl (hb hby d1_58) kx_) ?_
      refine W.s1 (mkF m 63 #[.val (.int xp)] [(.int (1 : Int32))]) (fun _ kx_ => XS.goto X0.here hx rfl (pc0 := 59) (pc' := 63) rfl (hb hby d1_59) (by decide) (by decide) kx_) ?_
      exact W.retZ X0 hx hlk (t := .boolean) (z' := (1 : Int32)) Bd.returns (by simp) (hb hby d1_63) rfl (by show Q1 Z xp h0 n0 _ s₁.heap _; rw [e0]; refine ⟨_, rfl, N0, rfl, Or.inl ⟨rfl, ?_⟩⟩; simp only [Int32.lt_iff_toInt_lt, ← Int32.toInt_inj, own_l0, own_l9, own_l10, own_l13, own_l32, own_l55296, own_l57343, own_l65533, own_l65534, own_l65535, own_l65536, own_l1114111] at c3 c16; unfold own_ok; omega) (by decide) (by decide)
    · refine W.s1 (mkF m 20 #[.val (.int xp)] [(.int xp)]) (fun _ kx_ => XS.iloadN X0.here hx rfl (hb hby d1_19) rfl kx_) ?_
      refine W.s1 (mkF m 22 #[.val (.int xp)] [(.int (9 : Int32)), (.int xp)]) (fun _ kx_ => XS.bipush X0.here hx rfl (hb hby d1_20) kx_) ?_
      refine W.icmp X0 hx (hb hby d1_22) (pc' := 58) (pc'' := 25) (by decide) (by decide) rfl (fun (c22 : xp = (9 : Int32)) => ?_) (fun (c22 : ¬ xp = (9 : Int32)) => ?_)
      · refine W.s1 (mkF m 59 #[.val (.int xp)] [(.int (1 : Int32))]) (fun _ kx_ => XS.iconst X0.here hx rfl (hb hby d1_58) kx_) ?_
        refine W.s1 (mkF m 63 #[.val (.int xp)] [(.int (1 : Int32))]) (fun _ kx_ => XS.goto X0.here hx rfl (pc0 := 59) (pc' := 63) rfl (hb hby d1_59) (by decide) (by decide) kx_) ?_
        exact W.retZ X0 hx hlk (t := .boolean) (z' := (1 : Int32)) Bd.returns (by simp) (hb hby d1_63) rfl (by show Q1 Z xp h0 n0 _ s₁.heap _; rw [e0]; refine ⟨_, rfl, N0, rfl, Or.inl ⟨rfl, ?_⟩⟩; simp only [Int32.lt_iff_toInt_lt, ← Int32.toInt_inj, own_l0, own_l9, own_l10, own_l13, own_l32, own_l55296, own_l57343, own_l65533, own_l65534, own_l65535, own_l65536, own_l1114111] at c3 c16 c22; unfold own_ok; omega) (by decide) (by decide)
      · refine W.s1 (mkF m 26 #[.val (.int xp)] [(.int xp)]) (fun _ kx_ => XS.iloadN X0.here hx rfl (hb hby d1_25) rfl kx_) ?_
        refine W.s1 (mkF m 28 #[.val (.int xp)] [(.int (13 : Int32)), (.int xp)]) (fun _ kx_ => XS.bipush X0.here hx rfl (hb hby d1_26) kx_) ?_
        refine W.icmp X0 hx (hb hby d1_28) (pc' := 58) (pc'' := 31) (by decide) (by decide) rfl (fun (c28 : xp = (13 : Int32)) => ?_) (fun (c28 : ¬ xp = (13 : Int32)) => ?_)
        · refine W.s1 (mkF m 59 #[.val (.int xp)] [(.int (1 : Int32))]) (fun _ kx_ => XS.iconst X0.here hx rfl (hb hby d1_58) kx_) ?_
          refine W.s1 (mkF m 63 #[.val (.int xp)] [(.int (1 : Int32))]) (fun _ kx_ => XS.goto X0.here hx rfl (pc0 := 59) (pc' := 63) rfl (hb hby d1_59) (by decide) (by decide) kx_) ?_
          exact W.retZ X0 hx hlk (t := .boolean) (z' := (1 : Int32)) Bd.returns (by simp) (hb hby d1_63) rfl (by show Q1 Z xp h0 n0 _ s₁.heap _; rw [e0]; refine ⟨_, rfl, N0, rfl, Or.inl ⟨rfl, ?_⟩⟩; simp only [Int32.lt_iff_toInt_lt, ← Int32.toInt_inj, own_l0, own_l9, own_l10, own_l13, own_l32, own_l55296, own_l57343, own_l65533, own_l65534, own_l65535, own_l65536, own_l1114111] at c3 c16 c22 c28; unfold own_ok; omega) (by decide) (by decide)
        · refine W.s1 (mkF m 32 #[.val (.int xp)] [(.int xp)]) (fun _ kx_ => XS.iloadN X0.here hx rfl (hb hby d1_31) rfl kx_) ?_
          refine W.s1 (mkF m 35 #[.val (.int xp)] [(.int (57343 : Int32)), (.int xp)]) (fun _ kx_ => X0.ldcWInt hx hown (mvT hZ (hw _ (List.mem_of_getElem? (i := 16) rfl))) (g := (mkF m 32 #[.val (.int xp)] [(.int xp)])) rfl (hb hby d1_32) _ kx_) ?_
          refine W.icmp X0 hx (hb hby d1_35) (pc' := 45) (pc'' := 38) (by decide) (by decide) rfl (fun (c35 : ¬ (57343 : Int32) < xp) => ?_) (fun (c35 : (57343 : Int32) < xp) => ?_)
          · refine W.s1 (mkF m 46 #[.val (.int xp)] [(.int xp)]) (fun _ kx_ => XS.iloadN X0.here hx rfl (hb hby d1_45) rfl kx_) ?_
            refine W.s1 (mkF m 48 #[.val (.int xp)] [(.int (65536 : Int32)), (.int xp)]) (fun _ kx_ => X0.ldcInt hx hown (mvT hZ (hw _ (List.mem_of_getElem? (i := 17) rfl))) (g := (mkF m 46 #[.val (.int xp)] [(.int xp)])) rfl (hb hby d1_46) _ kx_) ?_
            refine W.icmp X0 hx (hb hby d1_48) (pc' := 62) (pc'' := 51) (by decide) (by decide) rfl (fun (c48 : xp < (65536 : Int32)) => ?_) (fun (c48 : ¬ xp < (65536 : Int32)) => ?_)
            · refine W.s1 (mkF m 63 #[.val (.int xp)] [(.int (0 : Int32))]) (fun _ kx_ => XS.iconst X0.here hx rfl (hb hby d1_62) kx_) ?_
              exact W.retZ X0 hx hlk (t := .boolean) (z' := (0 : Int32)) Bd.returns (by simp) (hb hby d1_63) rfl (by show Q1 Z xp h0 n0 _ s₁.heap _; rw [e0]; refine ⟨_, rfl, N0, rfl, Or.inr ⟨rfl, ?_⟩⟩; simp only [Int32.lt_iff_toInt_lt, ← Int32.toInt_inj, own_l0, own_l9, own_l10, own_l13, own_l32, own_l55296, own_l57343, own_l65533, own_l65534, own_l65535, own_l65536, own_l1114111] at c3 c16 c22 c28 c35 c48; unfold own_ok; omega) (by decide) (by decide)
            · refine W.s1 (mkF m 52 #[.val (.int xp)] [(.int xp)]) (fun _ kx_ => XS.iloadN X0.here hx rfl (hb hby d1_51) rfl kx_) ?_
              refine W.s1 (mkF m 55 #[.val (.int xp)] [(.int (1114111 : Int32)), (.int xp)]) (fun _ kx_ => X0.ldcWInt hx hown (mvT hZ (hw _ (List.mem_of_getElem? (i := 24) rfl))) (g := (mkF m 52 #[.val (.int xp)] [(.int xp)])) rfl (hb hby d1_52) _ kx_) ?_
              refine W.icmp X0 hx (hb hby d1_55) (pc' := 62) (pc'' := 58) (by decide) (by decide) rfl (fun (c55 : (1114111 : Int32) < xp) => ?_) (fun (c55 : ¬ (1114111 : Int32) < xp) => ?_)
              · refine W.s1 (mkF m 63 #[.val (.int xp)] [(.int (0 : Int32))]) (fun _ kx_ => XS.iconst X0.here hx rfl (hb hby d1_62) kx_) ?_
                exact W.retZ X0 hx hlk (t := .boolean) (z' := (0 : Int32)) Bd.returns (by simp) (hb hby d1_63) rfl (by show Q1 Z xp h0 n0 _ s₁.heap _; rw [e0]; refine ⟨_, rfl, N0, rfl, Or.inr ⟨rfl, ?_⟩⟩; simp only [Int32.lt_iff_toInt_lt, ← Int32.toInt_inj, own_l0, own_l9, own_l10, own_l13, own_l32, own_l55296, own_l57343, own_l65533, own_l65534, own_l65535, own_l65536, own_l1114111] at c3 c16 c22 c28 c35 c48 c55; unfold own_ok; omega) (by decide) (by decide)
              · refine W.s1 (mkF m 59 #[.val (.int xp)] [(.int (1 : Int32))]) (fun _ kx_ => XS.iconst X0.here hx rfl (hb hby d1_58) kx_) ?_
                refine W.s1 (mkF m 63 #[.val (.int xp)] [(.int (1 : Int32))]) (fun _ kx_ => XS.goto X0.here hx rfl (pc0 := 59) (pc' := 63) rfl (hb hby d1_59) (by decide) (by decide) kx_) ?_
                exact W.retZ X0 hx hlk (t := .boolean) (z' := (1 : Int32)) Bd.returns (by simp) (hb hby d1_63) rfl (by show Q1 Z xp h0 n0 _ s₁.heap _; rw [e0]; refine ⟨_, rfl, N0, rfl, Or.inl ⟨rfl, ?_⟩⟩; simp only [Int32.lt_iff_toInt_lt, ← Int32.toInt_inj, own_l0, own_l9, own_l10, own_l13, own_l32, own_l55296, own_l57343, own_l65533, own_l65534, own_l65535, own_l65536, own_l1114111] at c3 c16 c22 c28 c35 c48 c55; unfold own_ok; omega) (by decide) (by decide)
          · refine W.s1 (mkF m 39 #[.val (.int xp)] [(.int xp)]) (fun _ kx_ => XS.iloadN X0.here hx rfl (hb hby d1_38) rfl kx_) ?_
            refine W.s1 (mkF m 42 #[.val (.int xp)] [(.int (65533 : Int32)), (.int xp)]) (fun _ kx_ => X0.ldcWInt hx hown (mvT hZ (hw _ (List.mem_of_getElem? (i := 23) rfl))) (g := (mkF m 39 #[.val (.int xp)] [(.int xp)])) rfl (hb hby d1_39) _ kx_) ?_
            refine W.icmp X0 hx (hb hby d1_42) (pc' := 58) (pc'' := 45) (by decide) (by decide) rfl (fun (c42 : ¬ (65533 : Int32) < xp) => ?_) (fun (c42 : (65533 : Int32) < xp) => ?_)
            · refine W.s1 (mkF m 59 #[.val (.int xp)] [(.int (1 : Int32))]) (fun _ kx_ => XS.iconst X0.here hx rfl (hb hby d1_58) kx_) ?_
              refine W.s1 (mkF m 63 #[.val (.int xp)] [(.int (1 : Int32))]) (fun _ kx_ => XS.goto X0.here hx rfl (pc0 := 59) (pc' := 63) rfl (hb hby d1_59) (by decide) (by decide) kx_) ?_
              exact W.retZ X0 hx hlk (t := .boolean) (z' := (1 : Int32)) Bd.returns (by simp) (hb hby d1_63) rfl (by show Q1 Z xp h0 n0 _ s₁.heap _; rw [e0]; refine ⟨_, rfl, N0, rfl, Or.inl ⟨rfl, ?_⟩⟩; simp only [Int32.lt_iff_toInt_lt, ← Int32.toInt_inj, own_l0, own_l9, own_l10, own_l13, own_l32, own_l55296, own_l57343, own_l65533, own_l65534, own_l65535, own_l65536, own_l1114111] at c3 c16 c22 c28 c35 c42; unfold own_ok; omega) (by decide) (by decide)
            · refine W.s1 (mkF m 46 #[.val (.int xp)] [(.int xp)]) (fun _ kx_ => XS.iloadN X0.here hx rfl (hb hby d1_45) rfl kx_) ?_
              refine W.s1 (mkF m 48 #[.val (.int xp)] [(.int (65536 : Int32)), (.int xp)]) (fun _ kx_ => X0.ldcInt hx hown (mvT hZ (hw _ (List.mem_of_getElem? (i := 17) rfl))) (g := (mkF m 46 #[.val (.int xp)] [(.int xp)])) rfl (hb hby d1_46) _ kx_) ?_
              refine W.icmp X0 hx (hb hby d1_48) (pc' := 62) (pc'' := 51) (by decide) (by decide) rfl (fun (c48 : xp < (65536 : Int32)) => ?_) (fun (c48 : ¬ xp < (65536 : Int32)) => ?_)
              · refine W.s1 (mkF m 63 #[.val (.int xp)] [(.int (0 : Int32))]) (fun _ kx_ => XS.iconst X0.here hx rfl (hb hby d1_62) kx_) ?_
                exact W.retZ X0 hx hlk (t := .boolean) (z' := (0 : Int32)) Bd.returns (by simp) (hb hby d1_63) rfl (by show Q1 Z xp h0 n0 _ s₁.heap _; rw [e0]; refine ⟨_, rfl, N0, rfl, Or.inr ⟨rfl, ?_⟩⟩; simp only [Int32.lt_iff_toInt_lt, ← Int32.toInt_inj, own_l0, own_l9, own_l10, own_l13, own_l32, own_l55296, own_l57343, own_l65533, own_l65534, own_l65535, own_l65536, own_l1114111] at c3 c16 c22 c28 c35 c42 c48; unfold own_ok; omega) (by decide) (by decide)
              · refine W.s1 (mkF m 52 #[.val (.int xp)] [(.int xp)]) (fun _ kx_ => XS.iloadN X0.here hx rfl (hb hby d1_51) rfl kx_) ?_
                refine W.s1 (mkF m 55 #[.val (.int xp)] [(.int (1114111 : Int32)), (.int xp)]) (fun _ kx_ => X0.ldcWInt hx hown (mvT hZ (hw _ (List.mem_of_getElem? (i := 24) rfl))) (g := (mkF m 52 #[.val (.int xp)] [(.int xp)])) rfl (hb hby d1_52) _ kx_) ?_
                refine W.icmp X0 hx (hb hby d1_55) (pc' := 62) (pc'' := 58) (by decide) (by decide) rfl (fun (c55 : (1114111 : Int32) < xp) => ?_) (fun (c55 : ¬ (1114111 : Int32) < xp) => ?_)
                · refine W.s1 (mkF m 63 #[.val (.int xp)] [(.int (0 : Int32))]) (fun _ kx_ => XS.iconst X0.here hx rfl (hb hby d1_62) kx_) ?_
                  exact W.retZ X0 hx hlk (t := .boolean) (z' := (0 : Int32)) Bd.returns (by simp) (hb hby d1_63) rfl (by show Q1 Z xp h0 n0 _ s₁.heap _; rw [e0]; refine ⟨_, rfl, N0, rfl, Or.inr ⟨rfl, ?_⟩⟩; simp only [Int32.lt_iff_toInt_lt, ← Int32.toInt_inj, own_l0, own_l9, own_l10, own_l13, own_l32, own_l55296, own_l57343, own_l65533, own_l65534, own_l65535, own_l65536, own_l1114111] at c3 c16 c22 c28 c35 c42 c48 c55; unfold own_ok; omega) (by decide) (by decide)
                · refine W.s1 (mkF m 59 #[.val (.int xp)] [(.int (1 : Int32))]) (fun _ kx_ => XS.iconst X0.here hx rfl (hb hby d1_58) kx_) ?_
                  refine W.s1 (mkF m 63 #[.val (.int xp)] [(.int (1 : Int32))]) (fun _ kx_ => XS.goto X0.here hx rfl (pc0 := 59) (pc' := 63) rfl (hb hby d1_59) (by decide) (by decide) kx_) ?_
                  exact W.retZ X0 hx hlk (t := .boolean) (z' := (1 : Int32)) Bd.returns (by simp) (hb hby d1_63) rfl (by show Q1 Z xp h0 n0 _ s₁.heap _; rw [e0]; refine ⟨_, rfl, N0, rfl, Or.inl ⟨rfl, ?_⟩⟩; simp only [Int32.lt_iff_toInt_lt, ← Int32.toInt_inj, own_l0, own_l9, own_l10, own_l13, own_l32, own_l55296, own_l57343, own_l65533, own_l65534, own_l65535, own_l65536, own_l1114111] at c3 c16 c22 c28 c35 c42 c48 c55; unfold own_ok; omega) (by decide) (by decide)
  · refine W.s1 (mkF m 7 #[.val (.int xp)] [(.int xp)]) (fun _ kx_ => XS.iloadN X0.here hx rfl (hb hby d1_6) rfl kx_) ?_
    refine W.s1 (mkF m 10 #[.val (.int xp)] [(.int (55296 : Int32)), (.int xp)]) (fun _ kx_ => X0.ldcWInt hx hown (mvT hZ (hw _ (List.mem_of_getElem? (i := 22) rfl))) (g := (mkF m 7 #[.val (.int xp)] [(.int xp)])) rfl (hb hby d1_7) _ kx_) ?_
    refine W.icmp X0 hx (hb hby d1_10) (pc' := 58) (pc'' := 13) (by decide) (by decide) rfl (fun (c10 : xp < (55296 : Int32)) => ?_) (fun (c10 : ¬ xp < (55296 : Int32)) => ?_)
    · refine W.s1 (mkF m 59 #[.val (.int xp)] [(.int (1 : Int32))]) (fun _ kx_ => XS.iconst X0.here hx rfl (hb hby d1_58) kx_) ?_
      refine W.s1 (mkF m 63 #[.val (.int xp)] [(.int (1 : Int32))]) (fun _ kx_ => XS.goto X0.here hx rfl (pc0 := 59) (pc' := 63) rfl (hb hby d1_59) (by decide) (by decide) kx_) ?_
      exact W.retZ X0 hx hlk (t := .boolean) (z' := (1 : Int32)) Bd.returns (by simp) (hb hby d1_63) rfl (by show Q1 Z xp h0 n0 _ s₁.heap _; rw [e0]; refine ⟨_, rfl, N0, rfl, Or.inl ⟨rfl, ?_⟩⟩; simp only [Int32.lt_iff_toInt_lt, ← Int32.toInt_inj, own_l0, own_l9, own_l10, own_l13, own_l32, own_l55296, own_l57343, own_l65533, own_l65534, own_l65535, own_l65536, own_l1114111] at c3 c10; unfold own_ok; omega) (by decide) (by decide)
    · refine W.s1 (mkF m 14 #[.val (.int xp)] [(.int xp)]) (fun _ kx_ => XS.iloadN X0.here hx rfl (hb hby d1_13) rfl kx_) ?_
      refine W.s1 (mkF m 16 #[.val (.int xp)] [(.int (10 : Int32)), (.int xp)]) (fun _ kx_ => XS.bipush X0.here hx rfl (hb hby d1_14) kx_) ?_
      refine W.icmp X0 hx (hb hby d1_16) (pc' := 58) (pc'' := 19) (by decide) (by decide) rfl (fun (c16 : xp = (10 : Int32)) => ?_) (fun (c16 : ¬ xp = (10 : Int32)) => ?_)
      · refine W.s1 (mkF m 59 #[.val (.int xp)] [(.int (1 : Int32))]) (fun _ kx_ => XS.iconst X0.here hx rfl (hb hby d1_58) kx_) ?_
        refine W.s1 (mkF m 63 #[.val (.int xp)] [(.int (1 : Int32))]) (fun _ kx_ => XS.goto X0.here hx rfl (pc0 := 59) (pc' := 63) rfl (hb hby d1_59) (by decide) (by decide) kx_) ?_
        exact W.retZ X0 hx hlk (t := .boolean) (z' := (1 : Int32)) Bd.returns (by simp) (hb hby d1_63) rfl (by show Q1 Z xp h0 n0 _ s₁.heap _; rw [e0]; refine ⟨_, rfl, N0, rfl, Or.inl ⟨rfl, ?_⟩⟩; simp only [Int32.lt_iff_toInt_lt, ← Int32.toInt_inj, own_l0, own_l9, own_l10, own_l13, own_l32, own_l55296, own_l57343, own_l65533, own_l65534, own_l65535, own_l65536, own_l1114111] at c3 c10 c16; unfold own_ok; omega) (by decide) (by decide)
      · refine W.s1 (mkF m 20 #[.val (.int xp)] [(.int xp)]) (fun _ kx_ => XS.iloadN X0.here hx rfl (hb hby d1_19) rfl kx_) ?_
        refine W.s1 (mkF m 22 #[.val (.int xp)] [(.int (9 : Int32)), (.int xp)]) (fun _ kx_ => XS.bipush X0.here hx rfl (hb hby d1_20) kx_) ?_
        refine W.icmp X0 hx (hb hby d1_22) (pc' := 58) (pc'' := 25) (by decide) (by decide) rfl (fun (c22 : xp = (9 : Int32)) => ?_) (fun (c22 : ¬ xp = (9 : Int32)) => ?_)
        · refine W.s1 (mkF m 59 #[.val (.int xp)] [(.int (1 : Int32))]) (fun _ kx_ => XS.iconst X0.here hx rfl (hb hby d1_58) kx_) ?_
          refine W.s1 (mkF m 63 #[.val (.int xp)] [(.int (1 : Int32))]) (fun _ kx_ => XS.goto X0.here hx rfl (pc0 := 59) (pc' := 63) rfl (hb hby d1_59) (by decide) (by decide) kx_) ?_
          exact W.retZ X0 hx hlk (t := .boolean) (z' := (1 : Int32)) Bd.returns (by simp) (hb hby d1_63) rfl (by show Q1 Z xp h0 n0 _ s₁.heap _; rw [e0]; refine ⟨_, rfl, N0, rfl, Or.inl ⟨rfl, ?_⟩⟩; simp only [Int32.lt_iff_toInt_lt, ← Int32.toInt_inj, own_l0, own_l9, own_l10, own_l13, own_l32, own_l55296, own_l57343, own_l65533, own_l65534, own_l65535, own_l65536, own_l1114111] at c3 c10 c16 c22; unfold own_ok; omega) (by decide) (by decide)
        · refine W.s1 (mkF m 26 #[.val (.int xp)] [(.int xp)]) (fun _ kx_ => XS.iloadN X0.here hx rfl (hb hby d1_25) rfl kx_) ?_
          refine W.s1 (mkF m 28 #[.val (.int xp)] [(.int (13 : Int32)), (.int xp)]) (fun _ kx_ => XS.bipush X0.here hx rfl (hb hby d1_26) kx_) ?_
          refine W.icmp X0 hx (hb hby d1_28) (pc' := 58) (pc'' := 31) (by decide) (by decide) rfl (fun (c28 : xp = (13 : Int32)) => ?_) (fun (c28 : ¬ xp = (13 : Int32)) => ?_)
          · refine W.s1 (mkF m 59 #[.val (.int xp)] [(.int (1 : Int32))]) (fun _ kx_ => XS.iconst X0.here hx rfl (hb hby d1_58) kx_) ?_
            refine W.s1 (mkF m 63 #[.val (.int xp)] [(.int (1 : Int32))]) (fun _ kx_ => XS.goto X0.here hx rfl (pc0 := 59) (pc' := 63) rfl (hb hby d1_59) (by decide) (by decide) kx_) ?_
            exact W.retZ X0 hx hlk (t := .boolean) (z' := (1 : Int32)) Bd.returns (by simp) (hb hby d1_63) rfl (by show Q1 Z xp h0 n0 _ s₁.heap _; rw [e0]; refine ⟨_, rfl, N0, rfl, Or.inl ⟨rfl, ?_⟩⟩; simp only [Int32.lt_iff_toInt_lt, ← Int32.toInt_inj, own_l0, own_l9, own_l10, own_l13, own_l32, own_l55296, own_l57343, own_l65533, own_l65534, own_l65535, own_l65536, own_l1114111] at c3 c10 c16 c22 c28; unfold own_ok; omega) (by decide) (by decide)
          · refine W.s1 (mkF m 32 #[.val (.int xp)] [(.int xp)]) (fun _ kx_ => XS.iloadN X0.here hx rfl (hb hby d1_31) rfl kx_) ?_
            refine W.s1 (mkF m 35 #[.val (.int xp)] [(.int (57343 : Int32)), (.int xp)]) (fun _ kx_ => X0.ldcWInt hx hown (mvT hZ (hw _ (List.mem_of_getElem? (i := 16) rfl))) (g := (mkF m 32 #[.val (.int xp)] [(.int xp)])) rfl (hb hby d1_32) _ kx_) ?_
            refine W.icmp X0 hx (hb hby d1_35) (pc' := 45) (pc'' := 38) (by decide) (by decide) rfl (fun (c35 : ¬ (57343 : Int32) < xp) => ?_) (fun (c35 : (57343 : Int32) < xp) => ?_)
            · refine W.s1 (mkF m 46 #[.val (.int xp)] [(.int xp)]) (fun _ kx_ => XS.iloadN X0.here hx rfl (hb hby d1_45) rfl kx_) ?_
              refine W.s1 (mkF m 48 #[.val (.int xp)] [(.int (65536 : Int32)), (.int xp)]) (fun _ kx_ => X0.ldcInt hx hown (mvT hZ (hw _ (List.mem_of_getElem? (i := 17) rfl))) (g := (mkF m 46 #[.val (.int xp)] [(.int xp)])) rfl (hb hby d1_46) _ kx_) ?_
              refine W.icmp X0 hx (hb hby d1_48) (pc' := 62) (pc'' := 51) (by decide) (by decide) rfl (fun (c48 : xp < (65536 : Int32)) => ?_) (fun (c48 : ¬ xp < (65536 : Int32)) => ?_)
              · refine W.s1 (mkF m 63 #[.val (.int xp)] [(.int (0 : Int32))]) (fun _ kx_ => XS.iconst X0.here hx rfl (hb hby d1_62) kx_) ?_
                exact W.retZ X0 hx hlk (t := .boolean) (z' := (0 : Int32)) Bd.returns (by simp) (hb hby d1_63) rfl (by show Q1 Z xp h0 n0 _ s₁.heap _; rw [e0]; refine ⟨_, rfl, N0, rfl, Or.inr ⟨rfl, ?_⟩⟩; simp only [Int32.lt_iff_toInt_lt, ← Int32.toInt_inj, own_l0, own_l9, own_l10, own_l13, own_l32, own_l55296, own_l57343, own_l65533, own_l65534, own_l65535, own_l65536, own_l1114111] at c3 c10 c16 c22 c28 c35 c48; unfold own_ok; omega) (by decide) (by decide)
              · refine W.s1 (mkF m 52 #[.val (.int xp)] [(.int xp)]) (fun _ kx_ => XS.iloadN X0.here hx rfl (hb hby d1_51) rfl kx_) ?_
                refine W.s1 (mkF m 55 #[.val (.int xp)] [(.int (1114111 : Int32)), (.int xp)]) (fun _ kx_ => X0.ldcWInt hx hown (mvT hZ (hw _ (List.mem_of_getElem? (i := 24) rfl))) (g := (mkF m 52 #[.val (.int xp)] [(.int xp)])) rfl (hb hby d1_52) _ kx_) ?_
                refine W.icmp X0 hx (hb hby d1_55) (pc' := 62) (pc'' := 58) (by decide) (by decide) rfl (fun (c55 : (1114111 : Int32) < xp) => ?_) (fun (c55 : ¬ (1114111 : Int32) < xp) => ?_)
                · refine W.s1 (mkF m 63 #[.val (.int xp)] [(.int (0 : Int32))]) (fun _ kx_ => XS.iconst X0.here hx rfl (hb hby d1_62) kx_) ?_
                  exact W.retZ X0 hx hlk (t := .boolean) (z' := (0 : Int32)) Bd.returns (by simp) (hb hby d1_63) rfl (by show Q1 Z xp h0 n0 _ s₁.heap _; rw [e0]; refine ⟨_, rfl, N0, rfl, Or.inr ⟨rfl, ?_⟩⟩; simp only [Int32.lt_iff_toInt_lt, ← Int32.toInt_inj, own_l0, own_l9, own_l10, own_l13, own_l32, own_l55296, own_l57343, own_l65533, own_l65534, own_l65535, own_l65536, own_l1114111] at c3 c10 c16 c22 c28 c35 c48 c55; unfold own_ok; omega) (by decide) (by decide)
                · refine W.s1 (mkF m 59 #[.val (.int xp)] [(.int (1 : Int32))]) (fun _ kx_ => XS.iconst X0.here hx rfl (hb hby d1_58) kx_) ?_
                  refine W.s1 (mkF m 63 #[.val (.int xp)] [(.int (1 : Int32))]) (fun _ kx_ => XS.goto X0.here hx rfl (pc0 := 59) (pc' := 63) rfl (hb hby d1_59) (by decide) (by decide) kx_) ?_
                  exact W.retZ X0 hx hlk (t := .boolean) (z' := (1 : Int32)) Bd.returns (by simp) (hb hby d1_63) rfl (by show Q1 Z xp h0 n0 _ s₁.heap _; rw [e0]; refine ⟨_, rfl, N0, rfl, Or.inl ⟨rfl, ?_⟩⟩; simp only [Int32.lt_iff_toInt_lt, ← Int32.toInt_inj, own_l0, own_l9, own_l10, own_l13, own_l32, own_l55296, own_l57343, own_l65533, own_l65534, own_l65535, own_l65536, own_l1114111] at c3 c10 c16 c22 c28 c35 c48 c55; unfold own_ok; omega) (by decide) (by decide)
            · refine W.s1 (mkF m 39 #[.val (.int xp)] [(.int xp)]) (fun _ kx_ => XS.iloadN X0.here hx rfl (hb hby d1_38) rfl kx_) ?_
              refine W.s1 (mkF m 42 #[.val (.int xp)] [(.int (65533 : Int32)), (.int xp)]) (fun _ kx_ => X0.ldcWInt hx hown (mvT hZ (hw _ (List.mem_of_getElem? (i := 23) rfl))) (g := (mkF m 39 #[.val (.int xp)] [(.int xp)])) rfl (hb hby d1_39) _ kx_) ?_
              refine W.icmp X0 hx (hb hby d1_42) (pc' := 58) (pc'' := 45) (by decide) (by decide) rfl (fun (c42 : ¬ (65533 : Int32) < xp) => ?_) (fun (c42 : (65533 : Int32) < xp) => ?_)
              · refine W.s1 (mkF m 59 #[.val (.int xp)] [(.int (1 : Int32))]) (fun _ kx_ => XS.iconst X0.here hx rfl (hb hby d1_58) kx_) ?_
                refine W.s1 (mkF m 63 #[.val (.int xp)] [(.int (1 : Int32))]) (fun _ kx_ => XS.goto X0.here hx rfl (pc0 := 59) (pc' := 63) rfl (hb hby d1_59) (by decide) (by decide) kx_) ?_
                exact W.retZ X0 hx hlk (t := .boolean) (z' := (1 : Int32)) Bd.returns (by simp) (hb hby d1_63) rfl (by show Q1 Z xp h0 n0 _ s₁.heap _; rw [e0]; refine ⟨_, rfl, N0, rfl, Or.inl ⟨rfl, ?_⟩⟩; simp only [Int32.lt_iff_toInt_lt, ← Int32.toInt_inj, own_l0, own_l9, own_l10, own_l13, own_l32, own_l55296, own_l57343, own_l65533, own_l65534, own_l65535, own_l65536, own_l1114111] at c3 c10 c16 c22 c28 c35 c42; unfold own_ok; omega) (by decide) (by decide)
              · refine W.s1 (mkF m 46 #[.val (.int xp)] [(.int xp)]) (fun _ kx_ => XS.iloadN X0.here hx rfl (hb hby d1_45) rfl kx_) ?_
                refine W.s1 (mkF m 48 #[.val (.int xp)] [(.int (65536 : Int32)), (.int xp)]) (fun _ kx_ => X0.ldcInt hx hown (mvT hZ (hw _ (List.mem_of_getElem? (i := 17) rfl))) (g := (mkF m 46 #[.val (.int xp)] [(.int xp)])) rfl (hb hby d1_46) _ kx_) ?_
                refine W.icmp X0 hx (hb hby d1_48) (pc' := 62) (pc'' := 51) (by decide) (by decide) rfl (fun (c48 : xp < (65536 : Int32)) => ?_) (fun (c48 : ¬ xp < (65536 : Int32)) => ?_)
                · refine W.s1 (mkF m 63 #[.val (.int xp)] [(.int (0 : Int32))]) (fun _ kx_ => XS.iconst X0.here hx rfl (hb hby d1_62) kx_) ?_
                  exact W.retZ X0 hx hlk (t := .boolean) (z' := (0 : Int32)) Bd.returns (by simp) (hb hby d1_63) rfl (by show Q1 Z xp h0 n0 _ s₁.heap _; rw [e0]; refine ⟨_, rfl, N0, rfl, Or.inr ⟨rfl, ?_⟩⟩; simp only [Int32.lt_iff_toInt_lt, ← Int32.toInt_inj, own_l0, own_l9, own_l10, own_l13, own_l32, own_l55296, own_l57343, own_l65533, own_l65534, own_l65535, own_l65536, own_l1114111] at c3 c10 c16 c22 c28 c35 c42 c48; unfold own_ok; omega) (by decide) (by decide)
                · refine W.s1 (mkF m 52 #[.val (.int xp)] [(.int xp)]) (fun _ kx_ => XS.iloadN X0.here hx rfl (hb hby d1_51) rfl kx_) ?_
                  refine W.s1 (mkF m 55 #[.val (.int xp)] [(.int (1114111 : Int32)), (.int xp)]) (fun _ kx_ => X0.ldcWInt hx hown (mvT hZ (hw _ (List.mem_of_getElem? (i := 24) rfl))) (g := (mkF m 52 #[.val (.int xp)] [(.int xp)])) rfl (hb hby d1_52) _ kx_) ?_
                  refine W.icmp X0 hx (hb hby d1_55) (pc' := 62) (pc'' := 58) (by decide) (by decide) rfl (fun (c55 : (1114111 : Int32) < xp) => ?_) (fun (c55 : ¬ (1114111 : Int32) < xp) => ?_)
                  · refine W.s1 (mkF m 63 #[.val (.int xp)] [(.int (0 : Int32))]) (fun _ kx_ => XS.iconst X0.here hx rfl (hb hby d1_62) kx_) ?_
                    exact W.retZ X0 hx hlk (t := .boolean) (z' := (0 : Int32)) Bd.returns (by simp) (hb hby d1_63) rfl (by show Q1 Z xp h0 n0 _ s₁.heap _; rw [e0]; refine ⟨_, rfl, N0, rfl, Or.inr ⟨rfl, ?_⟩⟩; simp only [Int32.lt_iff_toInt_lt, ← Int32.toInt_inj, own_l0, own_l9, own_l10, own_l13, own_l32, own_l55296, own_l57343, own_l65533, own_l65534, own_l65535, own_l65536, own_l1114111] at c3 c10 c16 c22 c28 c35 c42 c48 c55; unfold own_ok; omega) (by decide) (by decide)
                  · refine W.s1 (mkF m 59 #[.val (.int xp)] [(.int (1 : Int32))]) (fun _ kx_ => XS.iconst X0.here hx rfl (hb hby d1_58) kx_) ?_
                    refine W.s1 (mkF m 63 #[.val (.int xp)] [(.int (1 : Int32))]) (fun _ kx_ => XS.goto X0.here hx rfl (pc0 := 59) (pc' := 63) rfl (hb hby d1_59) (by decide) (by decide) kx_) ?_
                    exact W.retZ X0 hx hlk (t := .boolean) (z' := (1 : Int32)) Bd.returns (by simp) (hb hby d1_63) rfl (by show Q1 Z xp h0 n0 _ s₁.heap _; rw [e0]; refine ⟨_, rfl, N0, rfl, Or.inl ⟨rfl, ?_⟩⟩; simp only [Int32.lt_iff_toInt_lt, ← Int32.toInt_inj, own_l0, own_l9, own_l10, own_l13, own_l32, own_l55296, own_l57343, own_l65533, own_l65534, own_l65535, own_l65536, own_l1114111] at c3 c10 c16 c22 c28 c35 c42 c48 c55; unfold own_ok; omega) (by decide) (by decide)
theorem pn_1 : plainName "com/example/stummel/stummel/io/XmlReaderIsXmlCharacterPinLaw" = true := by first | (simp [plainName, overriddenIn]; done) | decide +kernel
theorem ef_2 (m : MethodId) (x0 : Int32) : entryFrame m #[(.int x0)] 1 = mkF m 0 #[.val (.int x0)] [] := by first | (simp [entryFrame, mkF, argsToLocals, Value.category]; done) | rfl
theorem d2_0 : decode method_3_code 0 = .ok (.iload_n 0, 1) := by decide +kernel
theorem d2_1 : decode method_3_code 1 = .ok (.ifCond .lt 9, 3) := by decide +kernel
theorem d2_10 : decode method_3_code 10 = .ok (.iconst 0, 1) := by decide +kernel
theorem d2_11 : decode method_3_code 11 = .ok (.ireturn, 1) := by decide +kernel
theorem d2_4 : decode method_3_code 4 = .ok (.iload_n 0, 1) := by decide +kernel
theorem d2_5 : decode method_3_code 5 = .ok (.ldc 17, 2) := by decide +kernel
theorem d2_7 : decode method_3_code 7 = .ok (.if_icmp .le 5, 3) := by decide +kernel
theorem d2_12 : decode method_3_code 12 = .ok (.iload_n 0, 1) := by decide +kernel
theorem d2_13 : decode method_3_code 13 = .ok (.bipush 32, 2) := by decide +kernel
theorem d2_15 : decode method_3_code 15 = .ok (.if_icmp .ge 27, 3) := by decide +kernel
theorem d2_42 : decode method_3_code 42 = .ok (.iload_n 0, 1) := by decide +kernel
theorem d2_43 : decode method_3_code 43 = .ok (.ldc 11, 2) := by decide +kernel
theorem d2_45 : decode method_3_code 45 = .ok (.if_icmp .lt 11, 3) := by decide +kernel
theorem d2_56 : decode method_3_code 56 = .ok (.iload_n 0, 1) := by decide +kernel
theorem d2_57 : decode method_3_code 57 = .ok (.ldc 31, 2) := by decide +kernel
theorem d2_59 : decode method_3_code 59 = .ok (.if_icmp .eq 9, 3) := by decide +kernel
theorem d2_68 : decode method_3_code 68 = .ok (.iconst 0, 1) := by decide +kernel
theorem d2_69 : decode method_3_code 69 = .ok (.ireturn, 1) := by decide +kernel
theorem d2_62 : decode method_3_code 62 = .ok (.iload_n 0, 1) := by decide +kernel
theorem d2_63 : decode method_3_code 63 = .ok (.ldc 15, 2) := by decide +kernel
theorem d2_65 : decode method_3_code 65 = .ok (.if_icmp .ne 5, 3) := by decide +kernel
theorem d2_70 : decode method_3_code 70 = .ok (.iconst 1, 1) := by decide +kernel
theorem d2_71 : decode method_3_code 71 = .ok (.ireturn, 1) := by decide +kernel
theorem d2_48 : decode method_3_code 48 = .ok (.iload_n 0, 1) := by decide +kernel
theorem d2_49 : decode method_3_code 49 = .ok (.ldc 12, 2) := by decide +kernel
theorem d2_51 : decode method_3_code 51 = .ok (.if_icmp .gt 5, 3) := by decide +kernel
theorem d2_54 : decode method_3_code 54 = .ok (.iconst 0, 1) := by decide +kernel
theorem d2_55 : decode method_3_code 55 = .ok (.ireturn, 1) := by decide +kernel
theorem d2_18 : decode method_3_code 18 = .ok (.iload_n 0, 1) := by decide +kernel
theorem d2_19 : decode method_3_code 19 = .ok (.bipush 9, 2) := by decide +kernel
theorem d2_21 : decode method_3_code 21 = .ok (.if_icmp .eq 15, 3) := by decide +kernel
theorem d2_36 : decode method_3_code 36 = .ok (.iconst 1, 1) := by decide +kernel
theorem d2_37 : decode method_3_code 37 = .ok (.goto 4, 3) := by decide +kernel
theorem d2_41 : decode method_3_code 41 = .ok (.ireturn, 1) := by decide +kernel
theorem d2_24 : decode method_3_code 24 = .ok (.iload_n 0, 1) := by decide +kernel
theorem d2_25 : decode method_3_code 25 = .ok (.bipush 10, 2) := by decide +kernel
theorem d2_27 : decode method_3_code 27 = .ok (.if_icmp .eq 9, 3) := by decide +kernel
theorem d2_30 : decode method_3_code 30 = .ok (.iload_n 0, 1) := by decide +kernel
theorem d2_31 : decode method_3_code 31 = .ok (.bipush 13, 2) := by decide +kernel
theorem d2_33 : decode method_3_code 33 = .ok (.if_icmp .ne 7, 3) := by decide +kernel
theorem d2_40 : decode method_3_code 40 = .ok (.iconst 0, 1) := by decide +kernel
def Q2 (Z : State) (xp : Int32) (h0 : Heap) (n0 : Nat) (v : Option Value) (h : Heap) (L : List Loc) : Prop := ∃ r : Int32, v = some (.int r) ∧ Fr n0 L ∧ h = h0 ∧ ((r = 1 ∧ own_ok xp.toInt) ∨ (r = 0 ∧ ¬ own_ok xp.toInt))
set_option maxRecDepth 65536 in
set_option maxHeartbeats 40000000 in
theorem rm2 (l : Launch) (Z : State) (a0 : Array Value) (hw : ∀ d ∈ tables_1, d.before a0 Z = true) (ws : List Jvm.Cond) (xp : Int32) (h0 : Heap) (n0 : Nat) (Z0 : n0 ≤ h0.size) :
    MetFree l (⟨"com/example/stummel/stummel/io/XmlReaderIsXmlCharacterPinLaw", "expected", "(I)Z"⟩ : MethodName) (head1 (Jvm.Cond.code (⟨"com/example/stummel/stummel/io/XmlReaderIsXmlCharacterPinLaw", "expected", "(I)Z"⟩ : MethodName) method_3_code 1 (some .boolean) :: ws) ({ frames := 0, cells := 0, slots := 0, locals := 0 } : Room)) (fun a U => a = #[(.int xp)] ∧ Z.Warmed39 U.vm ∧ U.heap = h0) (fun _ _ _ _ _ => True) (fun _ U o U' => ∃ v L, o = .returned v ∧ Q2 Z xp h0 n0 v U'.heap L ∧ FrameEnd U o U' L ({ frames := 0, cells := 0, slots := 0, locals := 0 } : Room).cells ({ frames := 0, cells := 0, slots := 0, locals := 0 } : Room).slots) := by
  refine MetFree.of_bodySF (plainFor_of_name pn_1) hisR ?_
  intro p e s m args below meth c s₁ Bd hml0 hP hK
  obtain ⟨rfl, hZ, hh⟩ := hP
  have hx := Bd.exec
  have hby := Bd.bytes
  have hml : c.maxLocals = 1 := hml0
  have hown : s.vm.findClass "com/example/stummel/stummel/io/XmlReaderIsXmlCharacterPinLaw" = some m.cls := findClass_of_methodNamed Bd.named
  have hnm := (name_of_methodNamed Bd.named Bd.method).1
  have hlk : meth.locks = false := BodyLoose.notSynchronized Bd
  have X0 : Stand p l e ({ frames := 0, cells := 0, slots := 0, locals := 0 } : Room) s m #[(.int xp)] below meth c s₁ [] 0 0 := Stand.of_body Bd
  have e0 : s₁.heap = h0 := by rw [← hh, Bd.state]; rfl
  have N0 := Fr.nil n0
  show W.Gl p e below s (Q2 Z xp h0 n0) ({ frames := 0, cells := 0, slots := 0, locals := 0 } : Room).cells ({ frames := 0, cells := 0, slots := 0, locals := 0 } : Room).slots s₁ (entryFrame m #[(.int xp)] 1)
  refine W.cast (ef_2 m xp) ?_
  refine W.s1 (mkF m 1 #[.val (.int xp)] [(.int xp)]) (fun _ kx_ => XS.iloadN X0.here hx rfl (hb hby d2_0) rfl kx_) ?_
  refine W.ifc X0 hx (hb hby d2_1) (pc' := 10) (pc'' := 4) (by decide) (by decide) rfl (fun (c1 : xp < (0 : Int32)) => ?_) (fun (c1 : ¬ xp < (0 : Int32)) => ?_)
  · refine W.s1 (mkF m 11 #[.val (.int xp)] [(.int (0 : Int32))]) (fun _ kx_ => XS.iconst X0.here hx rfl (hb hby d2_10) kx_) ?_
    exact W.retZ X0 hx hlk (t := .boolean) (z' := (0 : Int32)) Bd.returns (by simp) (hb hby d2_11) rfl (by show Q2 Z xp h0 n0 _ s₁.heap _; rw [e0]; refine ⟨_, rfl, N0, rfl, Or.inr ⟨rfl, ?_⟩⟩; simp only [Int32.lt_iff_toInt_lt, ← Int32.toInt_inj, own_l0, own_l9, own_l10, own_l13, own_l32, own_l55296, own_l57343, own_l65533, own_l65534, own_l65535, own_l65536, own_l1114111] at c1; unfold own_ok; omega) (by decide) (by decide)
  · refine W.s1 (mkF m 5 #[.val (.int xp)] [(.int xp)]) (fun _ kx_ => XS.iloadN X0.here hx rfl (hb hby d2_4) rfl kx_) ?_
    refine W.s1 (mkF m 7 #[.val (.int xp)] [(.int (1114111 : Int32)), (.int xp)]) (fun _ kx_ => X0.ldcInt hx hown (mvT hZ (hw _ (List.mem_of_getElem? (i := 9) rfl))) (g := (mkF m 5 #[.val (.int xp)] [(.int xp)])) rfl (hb hby d2_5) _ kx_) ?_
    refine W.icmp X0 hx (hb hby d2_7) (pc' := 12) (pc'' := 10) (by decide) (by decide) rfl (fun (c7 : ¬ (1114111 : Int32) < xp) => ?_) (fun (c7 : (1114111 : Int32) < xp) => ?_)
    · refine W.s1 (mkF m 13 #[.val (.int xp)] [(.int xp)]) (fun _ kx_ => XS.iloadN X0.here hx rfl (hb hby d2_12) rfl kx_) ?_
      refine W.s1 (mkF m 15 #[.val (.int xp)] [(.int (32 : Int32)), (.int xp)]) (fun _ kx_ => XS.bipush X0.here hx rfl (hb hby d2_13) kx_) ?_
      refine W.icmp X0 hx (hb hby d2_15) (pc' := 42) (pc'' := 18) (by decide) (by decide) rfl (fun (c15 : ¬ xp < (32 : Int32)) => ?_) (fun (c15 : xp < (32 : Int32)) => ?_)
      · refine W.s1 (mkF m 43 #[.val (.int xp)] [(.int xp)]) (fun _ kx_ => XS.iloadN X0.here hx rfl (hb hby d2_42) rfl kx_) ?_
        refine W.s1 (mkF m 45 #[.val (.int xp)] [(.int (55296 : Int32)), (.int xp)]) (fun _ kx_ => X0.ldcInt hx hown (mvT hZ (hw _ (List.mem_of_getElem? (i := 3) rfl))) (g := (mkF m 43 #[.val (.int xp)] [(.int xp)])) rfl (hb hby d2_43) _ kx_) ?_
        refine W.icmp X0 hx (hb hby d2_45) (pc' := 56) (pc'' := 48) (by decide) (by decide) rfl (fun (c45 : xp < (55296 : Int32)) => ?_) (fun (c45 : ¬ xp < (55296 : Int32)) => ?_)
        · refine W.s1 (mkF m 57 #[.val (.int xp)] [(.int xp)]) (fun _ kx_ => XS.iloadN X0.here hx rfl (hb hby d2_56) rfl kx_) ?_
          refine W.s1 (mkF m 59 #[.val (.int xp)] [(.int (65534 : Int32)), (.int xp)]) (fun _ kx_ => X0.ldcInt hx hown (mvT hZ (hw _ (List.mem_of_getElem? (i := 25) rfl))) (g := (mkF m 57 #[.val (.int xp)] [(.int xp)])) rfl (hb hby d2_57) _ kx_) ?_
          refine W.icmp X0 hx (hb hby d2_59) (pc' := 68) (pc'' := 62) (by decide) (by decide) rfl (fun (c59 : xp = (65534 : Int32)) => ?_) (fun (c59 : ¬ xp = (65534 : Int32)) => ?_)
          · refine W.s1 (mkF m 69 #[.val (.int xp)] [(.int (0 : Int32))]) (fun _ kx_ => XS.iconst X0.here hx rfl (hb hby d2_68) kx_) ?_
            exact W.retZ X0 hx hlk (t := .boolean) (z' := (0 : Int32)) Bd.returns (by simp) (hb hby d2_69) rfl (by show Q2 Z xp h0 n0 _ s₁.heap _; rw [e0]; refine ⟨_, rfl, N0, rfl, Or.inr ⟨rfl, ?_⟩⟩; simp only [Int32.lt_iff_toInt_lt, ← Int32.toInt_inj, own_l0, own_l9, own_l10, own_l13, own_l32, own_l55296, own_l57343, own_l65533, own_l65534, own_l65535, own_l65536, own_l1114111] at c1 c7 c15 c45 c59; unfold own_ok; omega) (by decide) (by decide)
          · refine W.s1 (mkF m 63 #[.val (.int xp)] [(.int xp)]) (fun _ kx_ => XS.iloadN X0.here hx rfl (hb hby d2_62) rfl kx_) ?_
            refine W.s1 (mkF m 65 #[.val (.int xp)] [(.int (65535 : Int32)), (.int xp)]) (fun _ kx_ => X0.ldcInt hx hown (mvT hZ (hw _ (List.mem_of_getElem? (i := 7) rfl))) (g := (mkF m 63 #[.val (.int xp)] [(.int xp)])) rfl (hb hby d2_63) _ kx_) ?_
            refine W.icmp X0 hx (hb hby d2_65) (pc' := 70) (pc'' := 68) (by decide) (by decide) rfl (fun (c65 : ¬ xp = (65535 : Int32)) => ?_) (fun (c65 : xp = (65535 : Int32)) => ?_)
            · refine W.s1 (mkF m 71 #[.val (.int xp)] [(.int (1 : Int32))]) (fun _ kx_ => XS.iconst X0.here hx rfl (hb hby d2_70) kx_) ?_
              exact W.retZ X0 hx hlk (t := .boolean) (z' := (1 : Int32)) Bd.returns (by simp) (hb hby d2_71) rfl (by show Q2 Z xp h0 n0 _ s₁.heap _; rw [e0]; refine ⟨_, rfl, N0, rfl, Or.inl ⟨rfl, ?_⟩⟩; simp only [Int32.lt_iff_toInt_lt, ← Int32.toInt_inj, own_l0, own_l9, own_l10, own_l13, own_l32, own_l55296, own_l57343, own_l65533, own_l65534, own_l65535, own_l65536, own_l1114111] at c1 c7 c15 c45 c59 c65; unfold own_ok; omega) (by decide) (by decide)
            · refine W.s1 (mkF m 69 #[.val (.int xp)] [(.int (0 : Int32))]) (fun _ kx_ => XS.iconst X0.here hx rfl (hb hby d2_68) kx_) ?_
              exact W.retZ X0 hx hlk (t := .boolean) (z' := (0 : Int32)) Bd.returns (by simp) (hb hby d2_69) rfl (by show Q2 Z xp h0 n0 _ s₁.heap _; rw [e0]; refine ⟨_, rfl, N0, rfl, Or.inr ⟨rfl, ?_⟩⟩; simp only [Int32.lt_iff_toInt_lt, ← Int32.toInt_inj, own_l0, own_l9, own_l10, own_l13, own_l32, own_l55296, own_l57343, own_l65533, own_l65534, own_l65535, own_l65536, own_l1114111] at c1 c7 c15 c45 c59 c65; unfold own_ok; omega) (by decide) (by decide)
        · refine W.s1 (mkF m 49 #[.val (.int xp)] [(.int xp)]) (fun _ kx_ => XS.iloadN X0.here hx rfl (hb hby d2_48) rfl kx_) ?_
          refine W.s1 (mkF m 51 #[.val (.int xp)] [(.int (57343 : Int32)), (.int xp)]) (fun _ kx_ => X0.ldcInt hx hown (mvT hZ (hw _ (List.mem_of_getElem? (i := 4) rfl))) (g := (mkF m 49 #[.val (.int xp)] [(.int xp)])) rfl (hb hby d2_49) _ kx_) ?_
          refine W.icmp X0 hx (hb hby d2_51) (pc' := 56) (pc'' := 54) (by decide) (by decide) rfl (fun (c51 : (57343 : Int32) < xp) => ?_) (fun (c51 : ¬ (57343 : Int32) < xp) => ?_)
          · refine W.s1 (mkF m 57 #[.val (.int xp)] [(.int xp)]) (fun _ kx_ => XS.iloadN X0.here hx rfl (hb hby d2_56) rfl kx_) ?_
            refine W.s1 (mkF m 59 #[.val (.int xp)] [(.int (65534 : Int32)), (.int xp)]) (fun _ kx_ => X0.ldcInt hx hown (mvT hZ (hw _ (List.mem_of_getElem? (i := 25) rfl))) (g := (mkF m 57 #[.val (.int xp)] [(.int xp)])) rfl (hb hby d2_57) _ kx_) ?_
            refine W.icmp X0 hx (hb hby d2_59) (pc' := 68) (pc'' := 62) (by decide) (by decide) rfl (fun (c59 : xp = (65534 : Int32)) => ?_) (fun (c59 : ¬ xp = (65534 : Int32)) => ?_)
            · refine W.s1 (mkF m 69 #[.val (.int xp)] [(.int (0 : Int32))]) (fun _ kx_ => XS.iconst X0.here hx rfl (hb hby d2_68) kx_) ?_
              exact W.retZ X0 hx hlk (t := .boolean) (z' := (0 : Int32)) Bd.returns (by simp) (hb hby d2_69) rfl (by show Q2 Z xp h0 n0 _ s₁.heap _; rw [e0]; refine ⟨_, rfl, N0, rfl, Or.inr ⟨rfl, ?_⟩⟩; simp only [Int32.lt_iff_toInt_lt, ← Int32.toInt_inj, own_l0, own_l9, own_l10, own_l13, own_l32, own_l55296, own_l57343, own_l65533, own_l65534, own_l65535, own_l65536, own_l1114111] at c1 c7 c15 c45 c51 c59; unfold own_ok; omega) (by decide) (by decide)
            · refine W.s1 (mkF m 63 #[.val (.int xp)] [(.int xp)]) (fun _ kx_ => XS.iloadN X0.here hx rfl (hb hby d2_62) rfl kx_) ?_
              refine W.s1 (mkF m 65 #[.val (.int xp)] [(.int (65535 : Int32)), (.int xp)]) (fun _ kx_ => X0.ldcInt hx hown (mvT hZ (hw _ (List.mem_of_getElem? (i := 7) rfl))) (g := (mkF m 63 #[.val (.int xp)] [(.int xp)])) rfl (hb hby d2_63) _ kx_) ?_
              refine W.icmp X0 hx (hb hby d2_65) (pc' := 70) (pc'' := 68) (by decide) (by decide) rfl (fun (c65 : ¬ xp = (65535 : Int32)) => ?_) (fun (c65 : xp = (65535 : Int32)) => ?_)
              · refine W.s1 (mkF m 71 #[.val (.int xp)] [(.int (1 : Int32))]) (fun _ kx_ => XS.iconst X0.here hx rfl (hb hby d2_70) kx_) ?_
                exact W.retZ X0 hx hlk (t := .boolean) (z' := (1 : Int32)) Bd.returns (by simp) (hb hby d2_71) rfl (by show Q2 Z xp h0 n0 _ s₁.heap _; rw [e0]; refine ⟨_, rfl, N0, rfl, Or.inl ⟨rfl, ?_⟩⟩; simp only [Int32.lt_iff_toInt_lt, ← Int32.toInt_inj, own_l0, own_l9, own_l10, own_l13, own_l32, own_l55296, own_l57343, own_l65533, own_l65534, own_l65535, own_l65536, own_l1114111] at c1 c7 c15 c45 c51 c59 c65; unfold own_ok; omega) (by decide) (by decide)
              · refine W.s1 (mkF m 69 #[.val (.int xp)] [(.int (0 : Int32))]) (fun _ kx_ => XS.iconst X0.here hx rfl (hb hby d2_68) kx_) ?_
                exact W.retZ X0 hx hlk (t := .boolean) (z' := (0 : Int32)) Bd.returns (by simp) (hb hby d2_69) rfl (by show Q2 Z xp h0 n0 _ s₁.heap _; rw [e0]; refine ⟨_, rfl, N0, rfl, Or.inr ⟨rfl, ?_⟩⟩; simp only [Int32.lt_iff_toInt_lt, ← Int32.toInt_inj, own_l0, own_l9, own_l10, own_l13, own_l32, own_l55296, own_l57343, own_l65533, own_l65534, own_l65535, own_l65536, own_l1114111] at c1 c7 c15 c45 c51 c59 c65; unfold own_ok; omega) (by decide) (by decide)
          · refine W.s1 (mkF m 55 #[.val (.int xp)] [(.int (0 : Int32))]) (fun _ kx_ => XS.iconst X0.here hx rfl (hb hby d2_54) kx_) ?_
            exact W.retZ X0 hx hlk (t := .boolean) (z' := (0 : Int32)) Bd.returns (by simp) (hb hby d2_55) rfl (by show Q2 Z xp h0 n0 _ s₁.heap _; rw [e0]; refine ⟨_, rfl, N0, rfl, Or.inr ⟨rfl, ?_⟩⟩; simp only [Int32.lt_iff_toInt_lt, ← Int32.toInt_inj, own_l0, own_l9, own_l10, own_l13, own_l32, own_l55296, own_l57343, own_l65533, own_l65534, own_l65535, own_l65536, own_l1114111] at c1 c7 c15 c45 c51; unfold own_ok; omega) (by decide) (by decide)
      · refine W.s1 (mkF m 19 #[.val (.int xp)] [(.int xp)]) (fun _ kx_ => XS.iloadN X0.here hx rfl (hb hby d2_18) rfl kx_) ?_
        refine W.s1 (mkF m 21 #[.val (.int xp)] [(.int (9 : Int32)), (.int xp)]) (fun _ kx_ => XS.bipush X0.here hx rfl (hb hby d2_19) kx_) ?_
        refine W.icmp X0 hx (hb hby d2_21) (pc' := 36) (pc'' := 24) (by decide) (by decide) rfl (fun (c21 : xp = (9 : Int32)) => ?_) (fun (c21 : ¬ xp = (9 : Int32)) => ?_)
        · refine W.s1 (mkF m 37 #[.val (.int xp)] [(.int (1 : Int32))]) (fun _ kx_ => XS.iconst X0.here hx rfl (hb hby d2_36) kx_) ?_
          refine W.s1 (mkF m 41 #[.val (.int xp)] [(.int (1 : Int32))]) (fun _ kx_ => XS.goto X0.here hx rfl (pc0 := 37) (pc' := 41) rfl (hb hby d2_37) (by decide) (by decide) kx_) ?_
          exact W.retZ X0 hx hlk (t := .boolean) (z' := (1 : Int32)) Bd.returns (by simp) (hb hby d2_41) rfl (by show Q2 Z xp h0 n0 _ s₁.heap _; rw [e0]; refine ⟨_, rfl, N0, rfl, Or.inl ⟨rfl, ?_⟩⟩; simp only [Int32.lt_iff_toInt_lt, ← Int32.toInt_inj, own_l0, own_l9, own_l10, own_l13, own_l32, own_l55296, own_l57343, own_l65533, own_l65534, own_l65535, own_l65536, own_l1114111] at c1 c7 c15 c21; unfold own_ok; omega) (by decide) (by decide)
        · refine W.s1 (mkF m 25 #[.val (.int xp)] [(.int xp)]) (fun _ kx_ => XS.iloadN X0.here hx rfl (hb hby d2_24) rfl kx_) ?_
          refine W.s1 (mkF m 27 #[.val (.int xp)] [(.int (10 : Int32)), (.int xp)]) (fun _ kx_ => XS.bipush X0.here hx rfl (hb hby d2_25) kx_) ?_
          refine W.icmp X0 hx (hb hby d2_27) (pc' := 36) (pc'' := 30) (by decide) (by decide) rfl (fun (c27 : xp = (10 : Int32)) => ?_) (fun (c27 : ¬ xp = (10 : Int32)) => ?_)
          · refine W.s1 (mkF m 37 #[.val (.int xp)] [(.int (1 : Int32))]) (fun _ kx_ => XS.iconst X0.here hx rfl (hb hby d2_36) kx_) ?_
            refine W.s1 (mkF m 41 #[.val (.int xp)] [(.int (1 : Int32))]) (fun _ kx_ => XS.goto X0.here hx rfl (pc0 := 37) (pc' := 41) rfl (hb hby d2_37) (by decide) (by decide) kx_) ?_
            exact W.retZ X0 hx hlk (t := .boolean) (z' := (1 : Int32)) Bd.returns (by simp) (hb hby d2_41) rfl (by show Q2 Z xp h0 n0 _ s₁.heap _; rw [e0]; refine ⟨_, rfl, N0, rfl, Or.inl ⟨rfl, ?_⟩⟩; simp only [Int32.lt_iff_toInt_lt, ← Int32.toInt_inj, own_l0, own_l9, own_l10, own_l13, own_l32, own_l55296, own_l57343, own_l65533, own_l65534, own_l65535, own_l65536, own_l1114111] at c1 c7 c15 c21 c27; unfold own_ok; omega) (by decide) (by decide)
          · refine W.s1 (mkF m 31 #[.val (.int xp)] [(.int xp)]) (fun _ kx_ => XS.iloadN X0.here hx rfl (hb hby d2_30) rfl kx_) ?_
            refine W.s1 (mkF m 33 #[.val (.int xp)] [(.int (13 : Int32)), (.int xp)]) (fun _ kx_ => XS.bipush X0.here hx rfl (hb hby d2_31) kx_) ?_
            refine W.icmp X0 hx (hb hby d2_33) (pc' := 40) (pc'' := 36) (by decide) (by decide) rfl (fun (c33 : ¬ xp = (13 : Int32)) => ?_) (fun (c33 : xp = (13 : Int32)) => ?_)
            · refine W.s1 (mkF m 41 #[.val (.int xp)] [(.int (0 : Int32))]) (fun _ kx_ => XS.iconst X0.here hx rfl (hb hby d2_40) kx_) ?_
              exact W.retZ X0 hx hlk (t := .boolean) (z' := (0 : Int32)) Bd.returns (by simp) (hb hby d2_41) rfl (by show Q2 Z xp h0 n0 _ s₁.heap _; rw [e0]; refine ⟨_, rfl, N0, rfl, Or.inr ⟨rfl, ?_⟩⟩; simp only [Int32.lt_iff_toInt_lt, ← Int32.toInt_inj, own_l0, own_l9, own_l10, own_l13, own_l32, own_l55296, own_l57343, own_l65533, own_l65534, own_l65535, own_l65536, own_l1114111] at c1 c7 c15 c21 c27 c33; unfold own_ok; omega) (by decide) (by decide)
            · refine W.s1 (mkF m 37 #[.val (.int xp)] [(.int (1 : Int32))]) (fun _ kx_ => XS.iconst X0.here hx rfl (hb hby d2_36) kx_) ?_
              refine W.s1 (mkF m 41 #[.val (.int xp)] [(.int (1 : Int32))]) (fun _ kx_ => XS.goto X0.here hx rfl (pc0 := 37) (pc' := 41) rfl (hb hby d2_37) (by decide) (by decide) kx_) ?_
              exact W.retZ X0 hx hlk (t := .boolean) (z' := (1 : Int32)) Bd.returns (by simp) (hb hby d2_41) rfl (by show Q2 Z xp h0 n0 _ s₁.heap _; rw [e0]; refine ⟨_, rfl, N0, rfl, Or.inl ⟨rfl, ?_⟩⟩; simp only [Int32.lt_iff_toInt_lt, ← Int32.toInt_inj, own_l0, own_l9, own_l10, own_l13, own_l32, own_l55296, own_l57343, own_l65533, own_l65534, own_l65535, own_l65536, own_l1114111] at c1 c7 c15 c21 c27 c33; unfold own_ok; omega) (by decide) (by decide)
    · refine W.s1 (mkF m 11 #[.val (.int xp)] [(.int (0 : Int32))]) (fun _ kx_ => XS.iconst X0.here hx rfl (hb hby d2_10) kx_) ?_
      exact W.retZ X0 hx hlk (t := .boolean) (z' := (0 : Int32)) Bd.returns (by simp) (hb hby d2_11) rfl (by show Q2 Z xp h0 n0 _ s₁.heap _; rw [e0]; refine ⟨_, rfl, N0, rfl, Or.inr ⟨rfl, ?_⟩⟩; simp only [Int32.lt_iff_toInt_lt, ← Int32.toInt_inj, own_l0, own_l9, own_l10, own_l13, own_l32, own_l55296, own_l57343, own_l65533, own_l65534, own_l65535, own_l65536, own_l1114111] at c1 c7; unfold own_ok; omega) (by decide) (by decide)
theorem ef_0 (m : MethodId) (x0 : Int32) (x1 : Int32) (x2 : Int32) : entryFrame m #[(.int x0), (.int x1), (.int x2)] maxLocals = mkF m 0 #[.val (.int x0), .val (.int x1), .val (.int x2), .unset, .unset, .unset, .unset] [] := by first | (simp [entryFrame, mkF, argsToLocals, Value.category, maxLocals]; done) | rfl
theorem pd_0 : parseMethodDescriptor "(I)Z" = some ⟨[.int], some .boolean⟩ := by decide +kernel
def Q0 (Z : State) (x0 : Int32) (xsel : Int32) (xd : Int32) (h0 : Heap) (n0 : Nat) (v : Option Value) (h : Heap) (L : List Loc) : Prop := v = some (.int 1) ∧ Fr n0 L
set_option maxRecDepth 65536 in
set_option maxHeartbeats 40000000 in
theorem rm0 (l : Launch) (Z : State) (a0 : Array Value) (hw : ∀ d ∈ tables_1, d.before a0 Z = true) (ws : List Jvm.Cond) (x0 : Int32) (xsel : Int32) (xd : Int32) (h0 : Heap) (n0 : Nat) (Z0 : n0 ≤ h0.size) :
    MetFree l x (head1 (Jvm.Cond.code x code maxLocals ret :: ws) room_1) (fun a U => a = #[(.int x0), (.int xsel), (.int xd)] ∧ Z.Warmed39 U.vm ∧ U.heap = h0) (fun _ _ _ _ _ => True) (fun _ U o U' => ∃ v L, o = .returned v ∧ Q0 Z x0 xsel xd h0 n0 v U'.heap L ∧ FrameEnd U o U' L 16 128) := by
  refine MetFree.of_bodySF (plainFor_of_name pn_1) hisR ?_
  intro p e s m args below meth c s₁ Bd hml0 hP hK
  obtain ⟨rfl, hZ, hh⟩ := hP
  have hx := Bd.exec
  have hby := Bd.bytes
  have hml : c.maxLocals = 7 := hml0
  have hown : s.vm.findClass "com/example/stummel/stummel/io/XmlReaderIsXmlCharacterPinLaw" = some m.cls := findClass_of_methodNamed Bd.named
  have hnm := (name_of_methodNamed Bd.named Bd.method).1
  have hlk : meth.locks = false := BodyLoose.notSynchronized Bd
  have X0 : Stand p l e room_1 s m #[(.int x0), (.int xsel), (.int xd)] below meth c s₁ [] 0 0 := Stand.of_body Bd
  have e0 : s₁.heap = h0 := by rw [← hh, Bd.state]; rfl
  have N0 := Fr.nil n0
  show W.Gl p e below s (Q0 Z x0 xsel xd h0 n0) 16 128 s₁ (entryFrame m #[(.int x0), (.int xsel), (.int xd)] maxLocals)
  refine W.cast (ef_0 m x0 xsel xd) ?_
  refine W.s1 (mkF m 2 #[.val (.int x0), .val (.int xsel), .val (.int xd), .unset, .unset, .unset, .unset] [(.int (16 : Int32))]) (fun _ kx_ => XS.bipush X0.here hx rfl (hb hby at_0) kx_) ?_
  refine W.newi X0 hx hZ (ty := .int) (aty := .int) (hw _ (List.mem_of_getElem? (i := 0) rfl)) rfl rfl e0 (hb hby at_2) (n := 16) rfl (cap := 16) (Nat.le_refl _) (by decide) (by decide) (by decide) (pc' := 4) rfl (fun T101 h101 b101 X101 e101 E101 g101 A101 => ?_)
  have ge101 : n0 ≤ b101 := Nat.le_trans Z0 (Nat.le_of_eq g101.symm)
  have Z101 : n0 ≤ h101.size := Nat.le_trans Z0 E101.1
  refine W.s1 (mkF m 5 #[.val (.int x0), .val (.int xsel), .val (.int xd), .unset, .unset, .unset, .unset] [(.ref b101), (.ref b101)]) (fun _ kx_ => XS.dup X101.here hx rfl (hb hby at_4) rfl rfl kx_) ?_
  refine W.s1 (mkF m 6 #[.val (.int x0), .val (.int xsel), .val (.int xd), .unset, .unset, .unset, .unset] [(.int (0 : Int32)), (.ref b101), (.ref b101)]) (fun _ kx_ => XS.iconst X101.here hx rfl (hb hby at_5) kx_) ?_
  refine W.s1 (mkF m 8 #[.val (.int x0), .val (.int xsel), .val (.int xd), .unset, .unset, .unset, .unset] [(.int (-2147483645 : Int32)), (.int (0 : Int32)), (.ref b101), (.ref b101)]) (fun _ kx_ => X101.ldcInt hx hown (mvT hZ (hw _ (List.mem_of_getElem? (i := 1) rfl))) (g := (mkF m 6 #[.val (.int x0), .val (.int xsel), .val (.int xd), .unset, .unset, .unset, .unset] [(.int (0 : Int32)), (.ref b101), (.ref b101)])) rfl (hb hby at_6) _ kx_) ?_
  refine W.sti X101 hx hZ e101 A101 0 rfl (by decide) N0 ge101 (hb hby at_8) (pc' := 9) rfl (fun T102 h102 L102 X102 e102 W102 fw102 N102 => ?_)
  have Z102 : n0 ≤ h102.size := Nat.le_trans Z101 (Keep.of_wr W102).1
  refine W.s1 (mkF m 10 #[.val (.int x0), .val (.int xsel), .val (.int xd), .unset, .unset, .unset, .unset] [(.ref b101), (.ref b101)]) (fun _ kx_ => XS.dup X102.here hx rfl (hb hby at_9) rfl rfl kx_) ?_
  refine W.s1 (mkF m 11 #[.val (.int x0), .val (.int xsel), .val (.int xd), .unset, .unset, .unset, .unset] [(.int (1 : Int32)), (.ref b101), (.ref b101)]) (fun _ kx_ => XS.iconst X102.here hx rfl (hb hby at_10) kx_) ?_
  refine W.s1 (mkF m 12 #[.val (.int x0), .val (.int xsel), .val (.int xd), .unset, .unset, .unset, .unset] [(.int (-1 : Int32)), (.int (1 : Int32)), (.ref b101), (.ref b101)]) (fun _ kx_ => XS.iconst X102.here hx rfl (hb hby at_11) kx_) ?_
  refine W.sti X102 hx hZ e102 fw102 1 rfl (by decide) N102 ge101 (hb hby at_12) (pc' := 13) rfl (fun T103 h103 L103 X103 e103 W103 fw103 N103 => ?_)
  have Z103 : n0 ≤ h103.size := Nat.le_trans Z102 (Keep.of_wr W103).1
  refine W.s1 (mkF m 14 #[.val (.int x0), .val (.int xsel), .val (.int xd), .unset, .unset, .unset, .unset] [(.ref b101), (.ref b101)]) (fun _ kx_ => XS.dup X103.here hx rfl (hb hby at_13) rfl rfl kx_) ?_
  refine W.s1 (mkF m 15 #[.val (.int x0), .val (.int xsel), .val (.int xd), .unset, .unset, .unset, .unset] [(.int (2 : Int32)), (.ref b101), (.ref b101)]) (fun _ kx_ => XS.iconst X103.here hx rfl (hb hby at_14) kx_) ?_
  refine W.s1 (mkF m 17 #[.val (.int x0), .val (.int xsel), .val (.int xd), .unset, .unset, .unset, .unset] [(.int (9 : Int32)), (.int (2 : Int32)), (.ref b101), (.ref b101)]) (fun _ kx_ => XS.bipush X103.here hx rfl (hb hby at_15) kx_) ?_
  refine W.sti X103 hx hZ e103 fw103 2 rfl (by decide) N103 ge101 (hb hby at_17) (pc' := 18) rfl (fun T104 h104 L104 X104 e104 W104 fw104 N104 => ?_)
  have Z104 : n0 ≤ h104.size := Nat.le_trans Z103 (Keep.of_wr W104).1
  refine W.s1 (mkF m 19 #[.val (.int x0), .val (.int xsel), .val (.int xd), .unset, .unset, .unset, .unset] [(.ref b101), (.ref b101)]) (fun _ kx_ => XS.dup X104.here hx rfl (hb hby at_18) rfl rfl kx_) ?_
  refine W.s1 (mkF m 20 #[.val (.int x0), .val (.int xsel), .val (.int xd), .unset, .unset, .unset, .unset] [(.int (3 : Int32)), (.ref b101), (.ref b101)]) (fun _ kx_ => XS.iconst X104.here hx rfl (hb hby at_19) kx_) ?_
  refine W.s1 (mkF m 22 #[.val (.int x0), .val (.int xsel), .val (.int xd), .unset, .unset, .unset, .unset] [(.int (13 : Int32)), (.int (3 : Int32)), (.ref b101), (.ref b101)]) (fun _ kx_ => XS.bipush X104.here hx rfl (hb hby at_20) kx_) ?_
  refine W.sti X104 hx hZ e104 fw104 3 rfl (by decide) N104 ge101 (hb hby at_22) (pc' := 23) rfl (fun T105 h105 L105 X105 e105 W105 fw105 N105 => ?_)
  have Z105 : n0 ≤ h105.size := Nat.le_trans Z104 (Keep.of_wr W105).1
  refine W.s1 (mkF m 24 #[.val (.int x0), .val (.int xsel), .val (.int xd), .unset, .unset, .unset, .unset] [(.ref b101), (.ref b101)]) (fun _ kx_ => XS.dup X105.here hx rfl (hb hby at_23) rfl rfl kx_) ?_
  refine W.s1 (mkF m 25 #[.val (.int x0), .val (.int xsel), .val (.int xd), .unset, .unset, .unset, .unset] [(.int (4 : Int32)), (.ref b101), (.ref b101)]) (fun _ kx_ => XS.iconst X105.here hx rfl (hb hby at_24) kx_) ?_
  refine W.s1 (mkF m 27 #[.val (.int x0), .val (.int xsel), .val (.int xd), .unset, .unset, .unset, .unset] [(.int (31 : Int32)), (.int (4 : Int32)), (.ref b101), (.ref b101)]) (fun _ kx_ => XS.bipush X105.here hx rfl (hb hby at_25) kx_) ?_
  refine W.sti X105 hx hZ e105 fw105 4 rfl (by decide) N105 ge101 (hb hby at_27) (pc' := 28) rfl (fun T106 h106 L106 X106 e106 W106 fw106 N106 => ?_)
  have Z106 : n0 ≤ h106.size := Nat.le_trans Z105 (Keep.of_wr W106).1
  refine W.s1 (mkF m 29 #[.val (.int x0), .val (.int xsel), .val (.int xd), .unset, .unset, .unset, .unset] [(.ref b101), (.ref b101)]) (fun _ kx_ => XS.dup X106.here hx rfl (hb hby at_28) rfl rfl kx_) ?_
  refine W.s1 (mkF m 30 #[.val (.int x0), .val (.int xsel), .val (.int xd), .unset, .unset, .unset, .unset] [(.int (5 : Int32)), (.ref b101), (.ref b101)]) (fun _ kx_ => XS.iconst X106.here hx rfl (hb hby at_29) kx_) ?_
  refine W.s1 (mkF m 32 #[.val (.int x0), .val (.int xsel), .val (.int xd), .unset, .unset, .unset, .unset] [(.int (127 : Int32)), (.int (5 : Int32)), (.ref b101), (.ref b101)]) (fun _ kx_ => XS.bipush X106.here hx rfl (hb hby at_30) kx_) ?_
  refine W.sti X106 hx hZ e106 fw106 5 rfl (by decide) N106 ge101 (hb hby at_32) (pc' := 33) rfl (fun T107 h107 L107 X107 e107 W107 fw107 N107 => ?_)
  have Z107 : n0 ≤ h107.size := Nat.le_trans Z106 (Keep.of_wr W107).1
  refine W.s1 (mkF m 34 #[.val (.int x0), .val (.int xsel), .val (.int xd), .unset, .unset, .unset, .unset] [(.ref b101), (.ref b101)]) (fun _ kx_ => XS.dup X107.here hx rfl (hb hby at_33) rfl rfl kx_) ?_
  refine W.s1 (mkF m 36 #[.val (.int x0), .val (.int xsel), .val (.int xd), .unset, .unset, .unset, .unset] [(.int (6 : Int32)), (.ref b101), (.ref b101)]) (fun _ kx_ => XS.bipush X107.here hx rfl (hb hby at_34) kx_) ?_
  refine W.s1 (mkF m 38 #[.val (.int x0), .val (.int xsel), .val (.int xd), .unset, .unset, .unset, .unset] [(.int (55295 : Int32)), (.int (6 : Int32)), (.ref b101), (.ref b101)]) (fun _ kx_ => X107.ldcInt hx hown (mvT hZ (hw _ (List.mem_of_getElem? (i := 2) rfl))) (g := (mkF m 36 #[.val (.int x0), .val (.int xsel), .val (.int xd), .unset, .unset, .unset, .unset] [(.int (6 : Int32)), (.ref b101), (.ref b101)])) rfl (hb hby at_36) _ kx_) ?_
  refine W.sti X107 hx hZ e107 fw107 6 rfl (by decide) N107 ge101 (hb hby at_38) (pc' := 39) rfl (fun T108 h108 L108 X108 e108 W108 fw108 N108 => ?_)
  have Z108 : n0 ≤ h108.size := Nat.le_trans Z107 (Keep.of_wr W108).1
  refine W.s1 (mkF m 40 #[.val (.int x0), .val (.int xsel), .val (.int xd), .unset, .unset, .unset, .unset] [(.ref b101), (.ref b101)]) (fun _ kx_ => XS.dup X108.here hx rfl (hb hby at_39) rfl rfl kx_) ?_
  refine W.s1 (mkF m 42 #[.val (.int x0), .val (.int xsel), .val (.int xd), .unset, .unset, .unset, .unset] [(.int (7 : Int32)), (.ref b101), (.ref b101)]) (fun _ kx_ => XS.bipush X108.here hx rfl (hb hby at_40) kx_) ?_
  refine W.s1 (mkF m 44 #[.val (.int x0), .val (.int xsel), .val (.int xd), .unset, .unset, .unset, .unset] [(.int (55296 : Int32)), (.int (7 : Int32)), (.ref b101), (.ref b101)]) (fun _ kx_ => X108.ldcInt hx hown (mvT hZ (hw _ (List.mem_of_getElem? (i := 3) rfl))) (g := (mkF m 42 #[.val (.int x0), .val (.int xsel), .val (.int xd), .unset, .unset, .unset, .unset] [(.int (7 : Int32)), (.ref b101), (.ref b101)])) rfl (hb hby at_42) _ kx_) ?_
  refine W.sti X108 hx hZ e108 fw108 7 rfl (by decide) N108 ge101 (hb hby at_44) (pc' := 45) rfl (fun T109 h109 L109 X109 e109 W109 fw109 N109 => ?_)
  have Z109 : n0 ≤ h109.size := Nat.le_trans Z108 (Keep.of_wr W109).1
  refine W.s1 (mkF m 46 #[.val (.int x0), .val (.int xsel), .val (.int xd), .unset, .unset, .unset, .unset] [(.ref b101), (.ref b101)]) (fun _ kx_ => XS.dup X109.here hx rfl (hb hby at_45) rfl rfl kx_) ?_
  refine W.s1 (mkF m 48 #[.val (.int x0), .val (.int xsel), .val (.int xd), .unset, .unset, .unset, .unset] [(.int (8 : Int32)), (.ref b101), (.ref b101)]) (fun _ kx_ => XS.bipush X109.here hx rfl (hb hby at_46) kx_) ?_
  refine W.s1 (mkF m 50 #[.val (.int x0), .val (.int xsel), .val (.int xd), .unset, .unset, .unset, .unset] [(.int (57343 : Int32)), (.int (8 : Int32)), (.ref b101), (.ref b101)]) (fun _ kx_ => X109.ldcInt hx hown (mvT hZ (hw _ (List.mem_of_getElem? (i := 4) rfl))) (g := (mkF m 48 #[.val (.int x0), .val (.int xsel), .val (.int xd), .unset, .unset, .unset, .unset] [(.int (8 : Int32)), (.ref b101), (.ref b101)])) rfl (hb hby at_48) _ kx_) ?_
  refine W.sti X109 hx hZ e109 fw109 8 rfl (by decide) N109 ge101 (hb hby at_50) (pc' := 51) rfl (fun T110 h110 L110 X110 e110 W110 fw110 N110 => ?_)
  have Z110 : n0 ≤ h110.size := Nat.le_trans Z109 (Keep.of_wr W110).1
  refine W.s1 (mkF m 52 #[.val (.int x0), .val (.int xsel), .val (.int xd), .unset, .unset, .unset, .unset] [(.ref b101), (.ref b101)]) (fun _ kx_ => XS.dup X110.here hx rfl (hb hby at_51) rfl rfl kx_) ?_
  refine W.s1 (mkF m 54 #[.val (.int x0), .val (.int xsel), .val (.int xd), .unset, .unset, .unset, .unset] [(.int (9 : Int32)), (.ref b101), (.ref b101)]) (fun _ kx_ => XS.bipush X110.here hx rfl (hb hby at_52) kx_) ?_
  refine W.s1 (mkF m 56 #[.val (.int x0), .val (.int xsel), .val (.int xd), .unset, .unset, .unset, .unset] [(.int (57344 : Int32)), (.int (9 : Int32)), (.ref b101), (.ref b101)]) (fun _ kx_ => X110.ldcInt hx hown (mvT hZ (hw _ (List.mem_of_getElem? (i := 5) rfl))) (g := (mkF m 54 #[.val (.int x0), .val (.int xsel), .val (.int xd), .unset, .unset, .unset, .unset] [(.int (9 : Int32)), (.ref b101), (.ref b101)])) rfl (hb hby at_54) _ kx_) ?_
  refine W.sti X110 hx hZ e110 fw110 9 rfl (by decide) N110 ge101 (hb hby at_56) (pc' := 57) rfl (fun T111 h111 L111 X111 e111 W111 fw111 N111 => ?_)
  have Z111 : n0 ≤ h111.size := Nat.le_trans Z110 (Keep.of_wr W111).1
  refine W.s1 (mkF m 58 #[.val (.int x0), .val (.int xsel), .val (.int xd), .unset, .unset, .unset, .unset] [(.ref b101), (.ref b101)]) (fun _ kx_ => XS.dup X111.here hx rfl (hb hby at_57) rfl rfl kx_) ?_
  refine W.s1 (mkF m 60 #[.val (.int x0), .val (.int xsel), .val (.int xd), .unset, .unset, .unset, .unset] [(.int (10 : Int32)), (.ref b101), (.ref b101)]) (fun _ kx_ => XS.bipush X111.here hx rfl (hb hby at_58) kx_) ?_
  refine W.s1 (mkF m 62 #[.val (.int x0), .val (.int xsel), .val (.int xd), .unset, .unset, .unset, .unset] [(.int (65533 : Int32)), (.int (10 : Int32)), (.ref b101), (.ref b101)]) (fun _ kx_ => X111.ldcInt hx hown (mvT hZ (hw _ (List.mem_of_getElem? (i := 6) rfl))) (g := (mkF m 60 #[.val (.int x0), .val (.int xsel), .val (.int xd), .unset, .unset, .unset, .unset] [(.int (10 : Int32)), (.ref b101), (.ref b101)])) rfl (hb hby at_60) _ kx_) ?_
  refine W.sti X111 hx hZ e111 fw111 10 rfl (by decide) N111 ge101 (hb hby at_62) (pc' := 63) rfl (fun T112 h112 L112 X112 e112 W112 fw112 N112 => ?_)
  have Z112 : n0 ≤ h112.size := Nat.le_trans Z111 (Keep.of_wr W112).1
  refine W.s1 (mkF m 64 #[.val (.int x0), .val (.int xsel), .val (.int xd), .unset, .unset, .unset, .unset] [(.ref b101), (.ref b101)]) (fun _ kx_ => XS.dup X112.here hx rfl (hb hby at_63) rfl rfl kx_) ?_
  refine W.s1 (mkF m 66 #[.val (.int x0), .val (.int xsel), .val (.int xd), .unset, .unset, .unset, .unset] [(.int (11 : Int32)), (.ref b101), (.ref b101)]) (fun _ kx_ => XS.bipush X112.here hx rfl (hb hby at_64) kx_) ?_
  refine W.s1 (mkF m 68 #[.val (.int x0), .val (.int xsel), .val (.int xd), .unset, .unset, .unset, .unset] [(.int (65535 : Int32)), (.int (11 : Int32)), (.ref b101), (.ref b101)]) (fun _ kx_ => X112.ldcInt hx hown (mvT hZ (hw _ (List.mem_of_getElem? (i := 7) rfl))) (g := (mkF m 66 #[.val (.int x0), .val (.int xsel), .val (.int xd), .unset, .unset, .unset, .unset] [(.int (11 : Int32)), (.ref b101), (.ref b101)])) rfl (hb hby at_66) _ kx_) ?_
  refine W.sti X112 hx hZ e112 fw112 11 rfl (by decide) N112 ge101 (hb hby at_68) (pc' := 69) rfl (fun T113 h113 L113 X113 e113 W113 fw113 N113 => ?_)
  have Z113 : n0 ≤ h113.size := Nat.le_trans Z112 (Keep.of_wr W113).1
  refine W.s1 (mkF m 70 #[.val (.int x0), .val (.int xsel), .val (.int xd), .unset, .unset, .unset, .unset] [(.ref b101), (.ref b101)]) (fun _ kx_ => XS.dup X113.here hx rfl (hb hby at_69) rfl rfl kx_) ?_
  refine W.s1 (mkF m 72 #[.val (.int x0), .val (.int xsel), .val (.int xd), .unset, .unset, .unset, .unset] [(.int (12 : Int32)), (.ref b101), (.ref b101)]) (fun _ kx_ => XS.bipush X113.here hx rfl (hb hby at_70) kx_) ?_
  refine W.s1 (mkF m 74 #[.val (.int x0), .val (.int xsel), .val (.int xd), .unset, .unset, .unset, .unset] [(.int (65536 : Int32)), (.int (12 : Int32)), (.ref b101), (.ref b101)]) (fun _ kx_ => X113.ldcInt hx hown (mvT hZ (hw _ (List.mem_of_getElem? (i := 8) rfl))) (g := (mkF m 72 #[.val (.int x0), .val (.int xsel), .val (.int xd), .unset, .unset, .unset, .unset] [(.int (12 : Int32)), (.ref b101), (.ref b101)])) rfl (hb hby at_72) _ kx_) ?_
  refine W.sti X113 hx hZ e113 fw113 12 rfl (by decide) N113 ge101 (hb hby at_74) (pc' := 75) rfl (fun T114 h114 L114 X114 e114 W114 fw114 N114 => ?_)
  have Z114 : n0 ≤ h114.size := Nat.le_trans Z113 (Keep.of_wr W114).1
  refine W.s1 (mkF m 76 #[.val (.int x0), .val (.int xsel), .val (.int xd), .unset, .unset, .unset, .unset] [(.ref b101), (.ref b101)]) (fun _ kx_ => XS.dup X114.here hx rfl (hb hby at_75) rfl rfl kx_) ?_
  refine W.s1 (mkF m 78 #[.val (.int x0), .val (.int xsel), .val (.int xd), .unset, .unset, .unset, .unset] [(.int (13 : Int32)), (.ref b101), (.ref b101)]) (fun _ kx_ => XS.bipush X114.here hx rfl (hb hby at_76) kx_) ?_
  refine W.s1 (mkF m 80 #[.val (.int x0), .val (.int xsel), .val (.int xd), .unset, .unset, .unset, .unset] [(.int (1114111 : Int32)), (.int (13 : Int32)), (.ref b101), (.ref b101)]) (fun _ kx_ => X114.ldcInt hx hown (mvT hZ (hw _ (List.mem_of_getElem? (i := 9) rfl))) (g := (mkF m 78 #[.val (.int x0), .val (.int xsel), .val (.int xd), .unset, .unset, .unset, .unset] [(.int (13 : Int32)), (.ref b101), (.ref b101)])) rfl (hb hby at_78) _ kx_) ?_
  refine W.sti X114 hx hZ e114 fw114 13 rfl (by decide) N114 ge101 (hb hby at_80) (pc' := 81) rfl (fun T115 h115 L115 X115 e115 W115 fw115 N115 => ?_)
  have Z115 : n0 ≤ h115.size := Nat.le_trans Z114 (Keep.of_wr W115).1
  refine W.s1 (mkF m 82 #[.val (.int x0), .val (.int xsel), .val (.int xd), .unset, .unset, .unset, .unset] [(.ref b101), (.ref b101)]) (fun _ kx_ => XS.dup X115.here hx rfl (hb hby at_81) rfl rfl kx_) ?_
  refine W.s1 (mkF m 84 #[.val (.int x0), .val (.int xsel), .val (.int xd), .unset, .unset, .unset, .unset] [(.int (14 : Int32)), (.ref b101), (.ref b101)]) (fun _ kx_ => XS.bipush X115.here hx rfl (hb hby at_82) kx_) ?_
  refine W.s1 (mkF m 86 #[.val (.int x0), .val (.int xsel), .val (.int xd), .unset, .unset, .unset, .unset] [(.int (1114112 : Int32)), (.int (14 : Int32)), (.ref b101), (.ref b101)]) (fun _ kx_ => X115.ldcInt hx hown (mvT hZ (hw _ (List.mem_of_getElem? (i := 10) rfl))) (g := (mkF m 84 #[.val (.int x0), .val (.int xsel), .val (.int xd), .unset, .unset, .unset, .unset] [(.int (14 : Int32)), (.ref b101), (.ref b101)])) rfl (hb hby at_84) _ kx_) ?_
  refine W.sti X115 hx hZ e115 fw115 14 rfl (by decide) N115 ge101 (hb hby at_86) (pc' := 87) rfl (fun T116 h116 L116 X116 e116 W116 fw116 N116 => ?_)
  have Z116 : n0 ≤ h116.size := Nat.le_trans Z115 (Keep.of_wr W116).1
  refine W.s1 (mkF m 88 #[.val (.int x0), .val (.int xsel), .val (.int xd), .unset, .unset, .unset, .unset] [(.ref b101), (.ref b101)]) (fun _ kx_ => XS.dup X116.here hx rfl (hb hby at_87) rfl rfl kx_) ?_
  refine W.s1 (mkF m 90 #[.val (.int x0), .val (.int xsel), .val (.int xd), .unset, .unset, .unset, .unset] [(.int (15 : Int32)), (.ref b101), (.ref b101)]) (fun _ kx_ => XS.bipush X116.here hx rfl (hb hby at_88) kx_) ?_
  refine W.s1 (mkF m 92 #[.val (.int x0), .val (.int xsel), .val (.int xd), .unset, .unset, .unset, .unset] [(.int (2147483643 : Int32)), (.int (15 : Int32)), (.ref b101), (.ref b101)]) (fun _ kx_ => X116.ldcInt hx hown (mvT hZ (hw _ (List.mem_of_getElem? (i := 11) rfl))) (g := (mkF m 90 #[.val (.int x0), .val (.int xsel), .val (.int xd), .unset, .unset, .unset, .unset] [(.int (15 : Int32)), (.ref b101), (.ref b101)])) rfl (hb hby at_90) _ kx_) ?_
  refine W.sti X116 hx hZ e116 fw116 15 rfl (by decide) N116 ge101 (hb hby at_92) (pc' := 93) rfl (fun T117 h117 L117 X117 e117 W117 fw117 N117 => ?_)
  have Z117 : n0 ≤ h117.size := Nat.le_trans Z116 (Keep.of_wr W117).1
  refine W.s1 (mkF m 94 #[.val (.int x0), .val (.int xsel), .val (.int xd), .val (.ref b101), .unset, .unset, .unset] []) (fun _ kx_ => XS.astoreN X117.here hx rfl (hb hby at_93) rfl rfl (l' := #[.val (.int x0), .val (.int xsel), .val (.int xd), .val (.ref b101), .unset, .unset, .unset]) rfl kx_) ?_
  refine W.s1 (mkF m 95 #[.val (.int x0), .val (.int xsel), .val (.int xd), .val (.ref b101), .unset, .unset, .unset] [(.ref b101)]) (fun _ kx_ => XS.aloadN X117.here hx rfl (hb hby at_94) rfl rfl kx_) ?_
  refine W.s1 (mkF m 96 #[.val (.int x0), .val (.int xsel), .val (.int xd), .val (.ref b101), .unset, .unset, .unset] [(.int xsel), (.ref b101)]) (fun _ kx_ => XS.iloadN X117.here hx rfl (hb hby at_95) rfl kx_) ?_
  refine W.s1 (mkF m 98 #[.val (.int x0), .val (.int xsel), .val (.int xd), .val (.ref b101), .unset, .unset, .unset] [(.int (15 : Int32)), (.int xsel), (.ref b101)]) (fun _ kx_ => XS.bipush X117.here hx rfl (hb hby at_96) kx_) ?_
  refine W.s1 (mkF m 99 #[.val (.int x0), .val (.int xsel), .val (.int xd), .val (.ref b101), .unset, .unset, .unset] [(.int (xsel &&& (15 : Int32))), (.ref b101)]) (fun _ kx_ => XS.iand X117.here hx rfl (hb hby at_98) rfl kx_) ?_
  obtain ⟨k99, hk99, hl99⟩ := own_k15 xsel
  refine W.ldi X117 hx hZ e117 fw117 k99 hk99 hl99 (hb hby at_99) (pc' := 100) rfl ?_
  generalize ((W.up (W.up (W.up (W.up (W.up (W.up (W.up (W.up (W.up (W.up (W.up (W.up (W.up (W.up (W.up (W.up (fun _ => 0) 0 (-2147483645 : Int32)) 1 (-1 : Int32)) 2 (9 : Int32)) 3 (13 : Int32)) 4 (31 : Int32)) 5 (127 : Int32)) 6 (55295 : Int32)) 7 (55296 : Int32)) 8 (57343 : Int32)) 9 (57344 : Int32)) 10 (65533 : Int32)) 11 (65535 : Int32)) 12 (65536 : Int32)) 13 (1114111 : Int32)) 14 (1114112 : Int32)) 15 (2147483643 : Int32)) k99) = w99
  refine W.s1 (mkF m 101 #[.val (.int x0), .val (.int xsel), .val (.int xd), .val (.ref b101), .unset, .unset, .unset] [(.int xd), (.int w99)]) (fun _ kx_ => XS.iloadN X117.here hx rfl (hb hby at_100) rfl kx_) ?_
  refine W.s1 (mkF m 103 #[.val (.int x0), .val (.int xsel), .val (.int xd), .val (.ref b101), .unset, .unset, .unset] [(.int (7 : Int32)), (.int xd), (.int w99)]) (fun _ kx_ => XS.bipush X117.here hx rfl (hb hby at_101) kx_) ?_
  refine W.s1 (mkF m 104 #[.val (.int x0), .val (.int xsel), .val (.int xd), .val (.ref b101), .unset, .unset, .unset] [(.int (xd &&& (7 : Int32))), (.int w99)]) (fun _ kx_ => XS.iand X117.here hx rfl (hb hby at_103) rfl kx_) ?_
  refine W.s1 (mkF m 105 #[.val (.int x0), .val (.int xsel), .val (.int xd), .val (.ref b101), .unset, .unset, .unset] [(.int (3 : Int32)), (.int (xd &&& (7 : Int32))), (.int w99)]) (fun _ kx_ => XS.iconst X117.here hx rfl (hb hby at_104) kx_) ?_
  refine W.s1 (mkF m 106 #[.val (.int x0), .val (.int xsel), .val (.int xd), .val (.ref b101), .unset, .unset, .unset] [(.int ((xd &&& (7 : Int32)) - (3 : Int32))), (.int w99)]) (fun _ kx_ => XS.isub X117.here hx rfl (hb hby at_105) rfl kx_) ?_
  refine W.s1 (mkF m 107 #[.val (.int x0), .val (.int xsel), .val (.int xd), .val (.ref b101), .unset, .unset, .unset] [(.int (w99 + ((xd &&& (7 : Int32)) - (3 : Int32))))]) (fun _ kx_ => XS.iadd X117.here hx rfl (hb hby at_106) rfl kx_) ?_
  generalize hg_xnear : (w99 + ((xd &&& (7 : Int32)) - (3 : Int32))) = xnear
  refine W.s1 (mkF m 109 #[.val (.int x0), .val (.int xsel), .val (.int xd), .val (.ref b101), .val (.int xnear), .unset, .unset] []) (fun _ kx_ => XS.istore X117.here hx rfl (hb hby at_107) rfl (l' := #[.val (.int x0), .val (.int xsel), .val (.int xd), .val (.ref b101), .val (.int xnear), .unset, .unset]) rfl kx_) ?_
  refine W.s1 (mkF m 110 #[.val (.int x0), .val (.int xsel), .val (.int xd), .val (.ref b101), .val (.int xnear), .unset, .unset] [(.int x0)]) (fun _ kx_ => XS.iloadN X117.here hx rfl (hb hby at_109) rfl kx_) ?_
  obtain ⟨_, _, ⟨T118, L118, k118, n118⟩, -, X118, ⟨Lc118, hQ118, l118, y118, z118⟩, st118⟩ := Jvm.LawKit.callS X117 hx (y := (⟨"com/example/stummel/stummel/io/XmlReader", "isXmlCharacter", "(I)Z"⟩ : MethodName)) hown (mvT hZ (hw _ (List.mem_of_getElem? (i := 12) rfl))) (mvT hZ (hw _ (List.mem_of_getElem? (i := 13) rfl))) (mvT hZ (hw _ (List.mem_of_getElem? (i := 14) rfl))) (mvT hZ (hw _ (List.mem_of_getElem? (i := 15) rfl))) (by decide) (backOf (W := 0) (rm1 l Z a0 hw [] x0 h117 n0 Z117 ) hZ (hw _ (List.mem_of_getElem? (i := 15) rfl)) (hw _ (List.mem_of_getElem? (i := 14) rfl)) (by decide) (by decide)) (g := (mkF m 110 #[.val (.int x0), .val (.int xsel), .val (.int xd), .val (.ref b101), .val (.int xnear), .unset, .unset] [(.int x0)])) rfl (by rw [hml]; rfl) (argsL := [(.int x0)]) (rest := []) (lenOf pd_0 rfl) rfl (by show 2 * 0 + _ ≤ _; exact Nat.le_of_eq rfl) (hb hby at_110) (fun _ _ => ⟨rfl, e117, (by decide : 1 + 0 ≤ _), (by decide : 16 + 0 ≤ _)⟩)
  dsimp only [Pt.U, Pt.locs, Pt.cells, Pt.slots] at X118 l118 y118 z118 st118 hQ118
  subst l118 y118 z118
  obtain ⟨ra, rfl, Nq118, eq118, hra⟩ := hQ118
  have N118 := Fr.app N117 Nq118
  refine W.s2 (mkF m 113 #[.val (.int x0), .val (.int xsel), .val (.int xd), .val (.ref b101), .val (.int xnear), .unset, .unset] [(.int ra)]) st118 ?_
  refine W.s1 (mkF m 114 #[.val (.int x0), .val (.int xsel), .val (.int xd), .val (.ref b101), .val (.int xnear), .unset, .unset] [(.int x0), (.int ra)]) (fun _ kx_ => XS.iloadN X118.here hx rfl (hb hby at_113) rfl kx_) ?_
  obtain ⟨_, _, ⟨T119, L119, k119, n119⟩, -, X119, ⟨Lc119, hQ119, l119, y119, z119⟩, st119⟩ := Jvm.LawKit.callS X118 hx (y := (⟨"com/example/stummel/stummel/io/XmlReaderIsXmlCharacterPinLaw", "expected", "(I)Z"⟩ : MethodName)) hown (mvT hZ (hw _ (List.mem_of_getElem? (i := 18) rfl))) (mvT hZ (hw _ (List.mem_of_getElem? (i := 19) rfl))) (mvT hZ (hw _ (List.mem_of_getElem? (i := 20) rfl))) (mvT hZ (hw _ (List.mem_of_getElem? (i := 21) rfl))) (by decide) (backOf (W := 1) (rm2 l Z a0 hw [] x0 h117 n0 Z117 ) hZ (hw _ (List.mem_of_getElem? (i := 21) rfl)) (hw _ (List.mem_of_getElem? (i := 20) rfl)) (by decide) (by decide)) (g := (mkF m 114 #[.val (.int x0), .val (.int xsel), .val (.int xd), .val (.ref b101), .val (.int xnear), .unset, .unset] [(.int x0), (.int ra)])) rfl (by rw [hml]; rfl) (argsL := [(.int x0)]) (rest := [(.int ra)]) (lenOf pd_0 rfl) rfl (by show 2 * 0 + _ ≤ _; exact Nat.le_of_eq rfl) (hb hby at_114) (fun _ _ => ⟨rfl, eq118, (by decide : 1 + 0 ≤ _), (by decide : 16 + 0 ≤ _)⟩)
  dsimp only [Pt.U, Pt.locs, Pt.cells, Pt.slots] at X119 l119 y119 z119 st119 hQ119
  subst l119 y119 z119
  obtain ⟨rb, rfl, Nq119, eq119, hrb⟩ := hQ119
  have N119 := Fr.app N118 Nq119
  have hqra : ra = rb := by rcases hra with ⟨rfl, a⟩ | ⟨rfl, a⟩ <;> rcases hrb with ⟨rfl, b⟩ | ⟨rfl, b⟩ <;> first | rfl | exact absurd a b | exact absurd b a
  refine W.s2 (mkF m 117 #[.val (.int x0), .val (.int xsel), .val (.int xd), .val (.ref b101), .val (.int xnear), .unset, .unset] [(.int rb), (.int ra)]) st119 ?_
  refine W.icmp X119 hx (hb hby at_117) (pc' := 124) (pc'' := 120) (by decide) (by decide) rfl (fun (c117 : ¬ ra = rb) => ?_) (fun (c117 : ra = rb) => ?_)
  · exact absurd hqra c117
  · refine W.s1 (mkF m 121 #[.val (.int x0), .val (.int xsel), .val (.int xd), .val (.ref b101), .val (.int xnear), .unset, .unset] [(.int (1 : Int32))]) (fun _ kx_ => XS.iconst X119.here hx rfl (hb hby at_120) kx_) ?_
    refine W.s1 (mkF m 125 #[.val (.int x0), .val (.int xsel), .val (.int xd), .val (.ref b101), .val (.int xnear), .unset, .unset] [(.int (1 : Int32))]) (fun _ kx_ => XS.goto X119.here hx rfl (pc0 := 121) (pc' := 125) rfl (hb hby at_121) (by decide) (by decide) kx_) ?_
    refine W.s1 (mkF m 127 #[.val (.int x0), .val (.int xsel), .val (.int xd), .val (.ref b101), .val (.int xnear), .val (.int (1 : Int32)), .unset] []) (fun _ kx_ => XS.istore X119.here hx rfl (hb hby at_125) rfl (l' := #[.val (.int x0), .val (.int xsel), .val (.int xd), .val (.ref b101), .val (.int xnear), .val (.int (1 : Int32)), .unset]) rfl kx_) ?_
    refine W.s1 (mkF m 129 #[.val (.int x0), .val (.int xsel), .val (.int xd), .val (.ref b101), .val (.int xnear), .val (.int (1 : Int32)), .unset] [(.int xnear)]) (fun _ kx_ => XS.iload X119.here hx rfl (hb hby at_127) rfl kx_) ?_
    obtain ⟨_, _, ⟨T120, L120, k120, n120⟩, -, X120, ⟨Lc120, hQ120, l120, y120, z120⟩, st120⟩ := Jvm.LawKit.callS X119 hx (y := (⟨"com/example/stummel/stummel/io/XmlReader", "isXmlCharacter", "(I)Z"⟩ : MethodName)) hown (mvT hZ (hw _ (List.mem_of_getElem? (i := 12) rfl))) (mvT hZ (hw _ (List.mem_of_getElem? (i := 13) rfl))) (mvT hZ (hw _ (List.mem_of_getElem? (i := 14) rfl))) (mvT hZ (hw _ (List.mem_of_getElem? (i := 15) rfl))) (by decide) (backOf (W := 0) (rm1 l Z a0 hw [] xnear h117 n0 Z117 ) hZ (hw _ (List.mem_of_getElem? (i := 15) rfl)) (hw _ (List.mem_of_getElem? (i := 14) rfl)) (by decide) (by decide)) (g := (mkF m 129 #[.val (.int x0), .val (.int xsel), .val (.int xd), .val (.ref b101), .val (.int xnear), .val (.int (1 : Int32)), .unset] [(.int xnear)])) rfl (by rw [hml]; rfl) (argsL := [(.int xnear)]) (rest := []) (lenOf pd_0 rfl) rfl (by show 2 * 0 + _ ≤ _; exact Nat.le_of_eq rfl) (hb hby at_129) (fun _ _ => ⟨rfl, eq119, (by decide : 1 + 0 ≤ _), (by decide : 16 + 0 ≤ _)⟩)
    dsimp only [Pt.U, Pt.locs, Pt.cells, Pt.slots] at X120 l120 y120 z120 st120 hQ120
    subst l120 y120 z120
    obtain ⟨rc, rfl, Nq120, eq120, hrc⟩ := hQ120
    have N120 := Fr.app N119 Nq120
    refine W.s2 (mkF m 132 #[.val (.int x0), .val (.int xsel), .val (.int xd), .val (.ref b101), .val (.int xnear), .val (.int (1 : Int32)), .unset] [(.int rc)]) st120 ?_
    refine W.s1 (mkF m 134 #[.val (.int x0), .val (.int xsel), .val (.int xd), .val (.ref b101), .val (.int xnear), .val (.int (1 : Int32)), .unset] [(.int xnear), (.int rc)]) (fun _ kx_ => XS.iload X120.here hx rfl (hb hby at_132) rfl kx_) ?_
    obtain ⟨_, _, ⟨T121, L121, k121, n121⟩, -, X121, ⟨Lc121, hQ121, l121, y121, z121⟩, st121⟩ := Jvm.LawKit.callS X120 hx (y := (⟨"com/example/stummel/stummel/io/XmlReaderIsXmlCharacterPinLaw", "expected", "(I)Z"⟩ : MethodName)) hown (mvT hZ (hw _ (List.mem_of_getElem? (i := 18) rfl))) (mvT hZ (hw _ (List.mem_of_getElem? (i := 19) rfl))) (mvT hZ (hw _ (List.mem_of_getElem? (i := 20) rfl))) (mvT hZ (hw _ (List.mem_of_getElem? (i := 21) rfl))) (by decide) (backOf (W := 1) (rm2 l Z a0 hw [] xnear h117 n0 Z117 ) hZ (hw _ (List.mem_of_getElem? (i := 21) rfl)) (hw _ (List.mem_of_getElem? (i := 20) rfl)) (by decide) (by decide)) (g := (mkF m 134 #[.val (.int x0), .val (.int xsel), .val (.int xd), .val (.ref b101), .val (.int xnear), .val (.int (1 : Int32)), .unset] [(.int xnear), (.int rc)])) rfl (by rw [hml]; rfl) (argsL := [(.int xnear)]) (rest := [(.int rc)]) (lenOf pd_0 rfl) rfl (by show 2 * 0 + _ ≤ _; exact Nat.le_of_eq rfl) (hb hby at_134) (fun _ _ => ⟨rfl, eq120, (by decide : 1 + 0 ≤ _), (by decide : 16 + 0 ≤ _)⟩)
    dsimp only [Pt.U, Pt.locs, Pt.cells, Pt.slots] at X121 l121 y121 z121 st121 hQ121
    subst l121 y121 z121
    obtain ⟨rd, rfl, Nq121, eq121, hrd⟩ := hQ121
    have N121 := Fr.app N120 Nq121
    have hqrc : rc = rd := by rcases hrc with ⟨rfl, a⟩ | ⟨rfl, a⟩ <;> rcases hrd with ⟨rfl, b⟩ | ⟨rfl, b⟩ <;> first | rfl | exact absurd a b | exact absurd b a
    refine W.s2 (mkF m 137 #[.val (.int x0), .val (.int xsel), .val (.int xd), .val (.ref b101), .val (.int xnear), .val (.int (1 : Int32)), .unset] [(.int rd), (.int rc)]) st121 ?_
    refine W.icmp X121 hx (hb hby at_137) (pc' := 144) (pc'' := 140) (by decide) (by decide) rfl (fun (c137 : ¬ rc = rd) => ?_) (fun (c137 : rc = rd) => ?_)
    · exact absurd hqrc c137
    · refine W.s1 (mkF m 141 #[.val (.int x0), .val (.int xsel), .val (.int xd), .val (.ref b101), .val (.int xnear), .val (.int (1 : Int32)), .unset] [(.int (1 : Int32))]) (fun _ kx_ => XS.iconst X121.here hx rfl (hb hby at_140) kx_) ?_
      refine W.s1 (mkF m 145 #[.val (.int x0), .val (.int xsel), .val (.int xd), .val (.ref b101), .val (.int xnear), .val (.int (1 : Int32)), .unset] [(.int (1 : Int32))]) (fun _ kx_ => XS.goto X121.here hx rfl (pc0 := 141) (pc' := 145) rfl (hb hby at_141) (by decide) (by decide) kx_) ?_
      refine W.s1 (mkF m 147 #[.val (.int x0), .val (.int xsel), .val (.int xd), .val (.ref b101), .val (.int xnear), .val (.int (1 : Int32)), .val (.int (1 : Int32))] []) (fun _ kx_ => XS.istore X121.here hx rfl (hb hby at_145) rfl (l' := #[.val (.int x0), .val (.int xsel), .val (.int xd), .val (.ref b101), .val (.int xnear), .val (.int (1 : Int32)), .val (.int (1 : Int32))]) rfl kx_) ?_
      refine W.s1 (mkF m 149 #[.val (.int x0), .val (.int xsel), .val (.int xd), .val (.ref b101), .val (.int xnear), .val (.int (1 : Int32)), .val (.int (1 : Int32))] [(.int (1 : Int32))]) (fun _ kx_ => XS.iload X121.here hx rfl (hb hby at_147) rfl kx_) ?_
      refine W.ifc X121 hx (hb hby at_149) (pc' := 161) (pc'' := 152) (by decide) (by decide) rfl (fun (c149 : (1 : Int32) = (0 : Int32)) => ?_) (fun (c149 : ¬ (1 : Int32) = (0 : Int32)) => ?_)
      · exact absurd c149 (by decide)
      · refine W.s1 (mkF m 154 #[.val (.int x0), .val (.int xsel), .val (.int xd), .val (.ref b101), .val (.int xnear), .val (.int (1 : Int32)), .val (.int (1 : Int32))] [(.int (1 : Int32))]) (fun _ kx_ => XS.iload X121.here hx rfl (hb hby at_152) rfl kx_) ?_
        refine W.ifc X121 hx (hb hby at_154) (pc' := 161) (pc'' := 157) (by decide) (by decide) rfl (fun (c154 : (1 : Int32) = (0 : Int32)) => ?_) (fun (c154 : ¬ (1 : Int32) = (0 : Int32)) => ?_)
        · exact absurd c154 (by decide)
        · refine W.s1 (mkF m 158 #[.val (.int x0), .val (.int xsel), .val (.int xd), .val (.ref b101), .val (.int xnear), .val (.int (1 : Int32)), .val (.int (1 : Int32))] [(.int (1 : Int32))]) (fun _ kx_ => XS.iconst X121.here hx rfl (hb hby at_157) kx_) ?_
          refine W.s1 (mkF m 162 #[.val (.int x0), .val (.int xsel), .val (.int xd), .val (.ref b101), .val (.int xnear), .val (.int (1 : Int32)), .val (.int (1 : Int32))] [(.int (1 : Int32))]) (fun _ kx_ => XS.goto X121.here hx rfl (pc0 := 158) (pc' := 162) rfl (hb hby at_158) (by decide) (by decide) kx_) ?_
          exact W.retZ X121 hx hlk (t := .boolean) (z' := (1 : Int32)) Bd.returns (by simp) (hb hby at_162) rfl (by show Q0 Z x0 xsel xd h0 n0 _ T121.heap _; rw [eq121]; exact ⟨rfl, N121⟩) (by decide) (by decide)
set_option maxRecDepth 65536 in
set_option maxHeartbeats 40000000 in
theorem comes_1 {Post : Tables → Env → Array Value → State → Outcome → State → Prop} (hpost : ∀ tb e args s v u, (limb_1_1.after args s (.returned v) u = true ∧ limb_1_2.after args s (.returned v) u = true ∧ True) → FrameEnd s (.returned v) u (Jvm.fieldLocs frame_1_writes args s ++ Jvm.arrayLocs frame_1_arrays args s ++ Jvm.staticLocs frame_1_statics s) 16 128 → Post tb e args s (.returned v) u) :
    ArmFor flags0 classFile x code maxLocals ret World_1 tables_1 room_1 Calls_1 rest_1 Pre_1 Post := by
  intro l hfl _ _ p e ha hc hk s m args below hf hA hF happ hP
  obtain ⟨hcalls, hrest, hpre⟩ := hP
  obtain ⟨-, -, -, hnamed, -, -, -, hat⟩ := (Spec.applies_iff hf).mp happ
  obtain ⟨hg, hn⟩ := and_e (Cond.before_iff.mp (show (Jvm.Cond.and given_1 narrow_1).before args s = true from hpre))
  obtain ⟨gc, g0⟩ := and_e hg
  obtain ⟨w_0, g1⟩ := and_e g0
  obtain ⟨w_1, g2⟩ := and_e g1
  have w_2 := g2
  obtain ⟨w0, w1, w2, rfl⟩ : ∃ w0 w1 w2 : Value, args = #[w0, w1, w2] := by
    have hs : args.size = 3 := by simpa [Cond.value, given_1] using gc
    obtain ⟨L⟩ := args
    match L, hs with
    | [w0, w1, w2], _ => exact ⟨w0, w1, w2, rfl⟩
  have hw := fun d (hd : d ∈ tables_1) => atoms_spec (ws := Jvm.Cond.code x code maxLocals ret :: tables_1) hat d (List.mem_cons_of_mem _ hd)
  have hfit : Fit s := fun {y c} hc i hi => by
    obtain ⟨ha, rfl⟩ := Array.getElem?_eq_some_iff.mp hc
    have q := List.all_eq_true.mp ((Array.all_eq_true_iff_forall_mem.mp hF) _ (Array.getElem_mem ha)) i (List.mem_range.mpr hi)
    simpa [Array.getElem?_eq_getElem hi] using q
  obtain ⟨i0, ei0⟩ := is_v w_0
  obtain rfl : w0 = (.int i0) := Option.some.inj ei0
  obtain ⟨i1, ei1⟩ := is_v w_1
  obtain rfl : w1 = (.int i1) := Option.some.inj ei1
  obtain ⟨i2, ei2⟩ := is_v w_2
  obtain rfl : w2 = (.int i2) := Option.some.inj ei2
  obtain ⟨n, o, h1, h2, h3, _, L, rfl, ⟨rfl, N⟩, hq⟩ := rm0 l s _ hw tables_1 i0 i1 i2 s.heap s.heap.size (Nat.le_refl _)  p e ha hc hk s m _ below hf ((Spec.applies_iff_loose hf).mp happ).1 ⟨rfl, State.Warmed39.refl s, rfl⟩ trivial
  refine ⟨n, _, h1, h2, h3, hpost _ _ _ _ _ _ ⟨Cond.after_iff.mpr rfl, Cond.after_iff.mpr (eq_i res_at (Term.int_eval (1)) rfl), trivial⟩ ⟨hq.1, hq.2.1, (hq.2.2.sift fun y hy => Or.inr (N y hy)).mono (by decide) (by decide)⟩⟩
theorem main_1_1 : Claimed_1_1 := comes_1 fun _ _ _ _ _ _ h hF => ⟨h.1, hF⟩
theorem main_1_2 : Claimed_1_2 := comes_1 fun _ _ _ _ _ _ h hF => ⟨h.2.1, hF⟩
end Jvm.Pilot.@@N@@
namespace Jvm.Pilot.@@N@@
open Jvm Jvm.ClassFile Sem Op Lib Jvm.Free Jvm.Stand Jvm.Pilot.@@N@@.Jvm.D
/-! MADE BY PROGRAM (witnessworld.py) out of the Statement's table words and the real class files: 9 classes; the members and pool entries that the words name. The judged class is class 1, her method 1. -/
namespace start1
open Jvm.ClassFile
def u (s : String) : CpInfo := .utf8 (stringToUtf16 s)
/-- a pool by its gaps: so many unusable entries, then the entry; so many at the end -/
def gap : Nat → List CpInfo → List CpInfo
  | 0, r => r
  | n + 1, r => .unusable :: gap n r
def poolList (es : List (Nat × CpInfo)) (last : Nat) : List CpInfo := es.foldr (fun e r => gap e.1 (e.2 :: r)) (gap last [])
def pool (es : List (Nat × CpInfo)) (last : Nat) : Array CpInfo := ⟨poolList es last⟩
def fileOf (pool : Array CpInfo) (this : Nat) (attrs : Array Attribute := #[]) (ms : Array MethodInfo := #[]) (fl : Nat := 33) (sup : Nat := 0) (ifs : Array Nat := #[]) (fds : Array FieldInfo := #[]) : ClassFile where
  minorVersion := 0
  majorVersion := 65
  constantPool := pool
  accessFlags := fl
  thisClass := this
  superClass := sup
  interfaces := ifs
  fields := fds
  methods := ms
  attributes := attrs
def plain (name : String) (sup : Option ClassId) : Class where
  name := name
  kind := .ordinary
  loader := none
  accessFlags := 33
  super := sup
  interfaces := #[]
  cf := none
  fields := #[]
  methods := #[]
  instanceTypes := #[]
  staticTypes := #[]
  resolved := #[]
  callSites := []
  init := .initialized
  statics := none
  mirror := none

def pool0 : Array CpInfo := pool [(5, u "<init>"), (0, u "()V"), (1, .class_ 10), (1, u "java/lang/Object")] 113

def k0m0 : Method := { name := "<init>", desc := "()V", sig := { parameters := [], returnType := none }, accessFlags := 1, code := none }
/-- java/lang/Object -/
def k0 : Class := { plain "java/lang/Object" none with
  accessFlags := 33
  interfaces := #[]
  cf := some (fileOf pool0 8 #[] #[{ accessFlags := 1, nameIndex := 5, descriptorIndex := 6, attributes := #[] }] 33 0 #[] #[])
  fields := #[]
  methods := #[k0m0]
  instanceTypes := #[]
  staticTypes := #[]
  resolved := Array.replicate 124 none
  statics := none }

def pool1 : Array CpInfo := pool [(2, .class_ 4), (1, u "java/lang/Object"), (0, u "<init>"), (0, u "()V"), (2, .integer 2147483651), (0, .integer 55295), (0, .integer 55296), (0, .integer 57343), (0, .integer 57344), (0, .integer 65533), (0, .integer 65535), (0, .integer 65536), (0, .integer 1114111), (0, .integer 1114112), (0, .integer 2147483643), (0, .methodref 21 22), (0, .class_ 23), (0, .nameAndType 24 25), (0, u "com/example/stummel/stummel/io/XmlReader"), (0, u "isXmlCharacter"), (0, u "(I)Z"), (0, .methodref 27 28), (0, .class_ 29), (0, .nameAndType 30 25), (0, u "com/example/stummel/stummel/io/XmlReaderIsXmlCharacterPinLaw"), (0, u "expected"), (0, .integer 65534), (2, u "law"), (0, u "(III)Z")] 5

def k1m0 : Method := { name := "<init>", desc := "()V", sig := { parameters := [], returnType := none }, accessFlags := 2, code := none }
def k1c1 : Code := { maxStack := 4, maxLocals := 7, code := code, exceptionTable := #[], attributes := #[] }
def k1m1 : Method := { name := "law", desc := "(III)Z", sig := { parameters := [.int, .int, .int], returnType := some .boolean }, accessFlags := 9, code := some k1c1 }
def k1c2 : Code := { maxStack := 2, maxLocals := 1, code := method_3_code, exceptionTable := #[], attributes := #[] }
def k1m2 : Method := { name := "expected", desc := "(I)Z", sig := { parameters := [.int], returnType := some .boolean }, accessFlags := 10, code := some k1c2 }
/-- com/example/stummel/stummel/io/XmlReaderIsXmlCharacterPinLaw -/
def k1 : Class := { plain "com/example/stummel/stummel/io/XmlReaderIsXmlCharacterPinLaw" (some 0) with
  accessFlags := 49
  interfaces := #[]
  cf := some (fileOf pool1 27 #[] #[{ accessFlags := 2, nameIndex := 5, descriptorIndex := 6, attributes := #[] }, { accessFlags := 9, nameIndex := 34, descriptorIndex := 35, attributes := #[] }, { accessFlags := 10, nameIndex := 30, descriptorIndex := 25, attributes := #[] }] 49 2 #[] #[])
  fields := #[]
  methods := #[k1m0, k1m1, k1m2]
  instanceTypes := #[]
  staticTypes := #[]
  resolved := Array.replicate 41 none
  statics := none }

def pool2 : Array CpInfo := pool [(2, .class_ 4), (1, u "java/lang/Object"), (2, .class_ 8), (0, u "com/example/stummel/stummel/io/XmlReader"), (0, .integer 65536), (2, u "buffer"), (0, u "[B"), (2, u "line"), (0, u "I"), (2, u "pool"), (2, u "nameStart"), (0, u "[I"), (2, u "nameColon"), (2, u "nameEnd"), (2, u "valueStart"), (2, u "valueEnd"), (2, u "pooled"), (0, u "[Z"), (2, u "valueAscii"), (2, u "declaration"), (2, u "attributeNamespace"), (2, u "attributeLocalName"), (3, u "knownName"), (0, u "[[B"), (2, u "knownWord"), (0, u "[J"), (2, u "knownColon"), (2, u "knownNumber"), (2, u "knownLocalNumber"), (2, u "openName"), (2, u "openNamespace"), (2, u "openLocalName"), (2, u "bindingMark"), (5, u "names"), (0, u "Lcom/example/stummel/stummel/io/StringTable;"), (2, u "bound"), (2, u "stamp"), (2, u "stampedAttribute"), (2, u "shadowedPrefix"), (2, u "shadowedNamespace"), (2, u "in"), (0, u "Ljava/io/InputStream;"), (20, u "limit"), (10, u "position"), (2, u "markedUtf8"), (0, u "Z"), (15, u "passed"), (0, u "J"), (2, u "documentStart"), (2, u "lineStart"), (2, u "emptyElement"), (4, .class_ 177), (1, u "com/example/stummel/stummel/io/XmlReader$Event"), (0, u "END"), (3, u "mark"), (2, u "inCdata"), (16, u "depth"), (8, u "brackets"), (23, .class_ 237), (1, u "com/example/stummel/stummel/io/XmlReader$Handler"), (15, u "namespace"), (3, u "localName"), (51, u "textPooled"), (2, u "textStart"), (2, u "textEnd"), (2, u "textAscii"), (17, u "tags"), (9, u "rootRead"), (5, u "(I)Z"), (35, u "poolLength"), (120, u "transcoded"), (0, u "Lcom/example/stummel/stummel/io/XmlReader$Utf8Stream;"), (38, .class_ 550), (0, u "com/example/stummel/stummel/io/XmlReader$Utf8Stream"), (15, u "inputEnded"), (9, u "readLocalNumber"), (2, u "readNumber"), (2, u "elementNumber"), (2, u "elementNameEnd"), (2, u "attributeCount"), (2, u "declarationCount"), (2, u "prefixedCount"), (50, u "shadowedCount"), (96, u "isXmlCharacter"), (0, .integer 1114111), (50, u "continuations"), (5, .integer 55296), (0, .integer 57343), (48, u "KINDS"), (0, .integer 65533), (23, u "XML_NAMESPACE"), (0, u "Ljava/lang/String;"), (1, u "DOCTYPE_REFUSED"), (0, u "XMLNS_NAMESPACE"), (0, u "XMLNS"), (0, u "CHUNK"), (0, u "ROOM"), (1, u "AHEAD"), (1, u "TEXT_PIECE"), (0, u "FEW_ATTRIBUTES"), (1, u "FIRST_CAPACITY"), (1, u "DEFAULT_PREFIX"), (1, u "XML_PREFIX"), (1, u "XMLNS_NAME"), (1, u "XML_NAMESPACE_NAME"), (1, u "UNBOUND"), (0, u "KNOWN_NAMES"), (0, u "PLAIN_TEXT"), (0, u "PLAIN_VALUE"), (0, u "PLAIN_NAME"), (1, u "LONGEST_KNOWN_NAME")] 135

def k2c0 : Code := { maxStack := 2, maxLocals := 1, code := prog_45_method_79_code, exceptionTable := #[], attributes := #[] }
def k2m0 : Method := { name := "isXmlCharacter", desc := "(I)Z", sig := { parameters := [.int], returnType := some .boolean }, accessFlags := 8, code := some k2c0 }
/-- com/example/stummel/stummel/io/XmlReader -/
def k2 : Class := { plain "com/example/stummel/stummel/io/XmlReader" (some 0) with
  accessFlags := 48
  interfaces := #[]
  cf := some (fileOf pool2 7 #[.nestMembers #[549, 235, 175]] #[{ accessFlags := 8, nameIndex := 742, descriptorIndex := 352, attributes := #[] }] 48 2 #[] #[{ accessFlags := 24, nameIndex := 875, descriptorIndex := 876, attributes := #[] }, { accessFlags := 24, nameIndex := 878, descriptorIndex := 876, attributes := #[] }, { accessFlags := 26, nameIndex := 879, descriptorIndex := 876, attributes := #[] }, { accessFlags := 26, nameIndex := 880, descriptorIndex := 876, attributes := #[] }, { accessFlags := 26, nameIndex := 881, descriptorIndex := 17, attributes := #[] }, { accessFlags := 26, nameIndex := 882, descriptorIndex := 17, attributes := #[] }, { accessFlags := 26, nameIndex := 884, descriptorIndex := 17, attributes := #[] }, { accessFlags := 26, nameIndex := 886, descriptorIndex := 17, attributes := #[] }, { accessFlags := 26, nameIndex := 887, descriptorIndex := 17, attributes := #[] }, { accessFlags := 26, nameIndex := 889, descriptorIndex := 17, attributes := #[] }, { accessFlags := 26, nameIndex := 178, descriptorIndex := 17, attributes := #[] }, { accessFlags := 26, nameIndex := 891, descriptorIndex := 17, attributes := #[] }, { accessFlags := 26, nameIndex := 893, descriptorIndex := 17, attributes := #[] }, { accessFlags := 26, nameIndex := 895, descriptorIndex := 17, attributes := #[] }, { accessFlags := 26, nameIndex := 897, descriptorIndex := 17, attributes := #[] }, { accessFlags := 26, nameIndex := 899, descriptorIndex := 17, attributes := #[] }, { accessFlags := 26, nameIndex := 900, descriptorIndex := 17, attributes := #[] }, { accessFlags := 26, nameIndex := 901, descriptorIndex := 17, attributes := #[] }, { accessFlags := 26, nameIndex := 902, descriptorIndex := 17, attributes := #[] }, { accessFlags := 26, nameIndex := 903, descriptorIndex := 17, attributes := #[] }, { accessFlags := 26, nameIndex := 850, descriptorIndex := 13, attributes := #[] }, { accessFlags := 26, nameIndex := 905, descriptorIndex := 17, attributes := #[] }, { accessFlags := 2, nameIndex := 107, descriptorIndex := 108, attributes := #[] }, { accessFlags := 2, nameIndex := 509, descriptorIndex := 510, attributes := #[] }, { accessFlags := 2, nameIndex := 566, descriptorIndex := 144, attributes := #[] }, { accessFlags := 2, nameIndex := 143, descriptorIndex := 144, attributes := #[] }, { accessFlags := 18, nameIndex := 164, descriptorIndex := 161, attributes := #[] }, { accessFlags := 2, nameIndex := 12, descriptorIndex := 13, attributes := #[] }, { accessFlags := 2, nameIndex := 182, descriptorIndex := 17, attributes := #[] }, { accessFlags := 2, nameIndex := 140, descriptorIndex := 17, attributes := #[] }, { accessFlags := 2, nameIndex := 129, descriptorIndex := 17, attributes := #[] }, { accessFlags := 2, nameIndex := 160, descriptorIndex := 161, attributes := #[] }, { accessFlags := 2, nameIndex := 16, descriptorIndex := 17, attributes := #[] }, { accessFlags := 2, nameIndex := 167, descriptorIndex := 161, attributes := #[] }, { accessFlags := 2, nameIndex := 794, descriptorIndex := 17, attributes := #[] }, { accessFlags := 2, nameIndex := 346, descriptorIndex := 144, attributes := #[] }, { accessFlags := 2, nameIndex := 170, descriptorIndex := 144, attributes := #[] }, { accessFlags := 2, nameIndex := 185, descriptorIndex := 144, attributes := #[] }, { accessFlags := 2, nameIndex := 211, descriptorIndex := 17, attributes := #[] }, { accessFlags := 2, nameIndex := 20, descriptorIndex := 13, attributes := #[] }, { accessFlags := 2, nameIndex := 388, descriptorIndex := 17, attributes := #[] }, { accessFlags := 2, nameIndex := 309, descriptorIndex := 144, attributes := #[] }, { accessFlags := 2, nameIndex := 312, descriptorIndex := 17, attributes := #[] }, { accessFlags := 2, nameIndex := 315, descriptorIndex := 17, attributes := #[] }, { accessFlags := 2, nameIndex := 318, descriptorIndex := 144, attributes := #[] }, { accessFlags := 2, nameIndex := 585, descriptorIndex := 17, attributes := #[] }, { accessFlags := 2, nameIndex := 582, descriptorIndex := 17, attributes := #[] }, { accessFlags := 2, nameIndex := 588, descriptorIndex := 17, attributes := #[] }, { accessFlags := 2, nameIndex := 591, descriptorIndex := 17, attributes := #[] }, { accessFlags := 2, nameIndex := 594, descriptorIndex := 17, attributes := #[] }, { accessFlags := 2, nameIndex := 23, descriptorIndex := 24, attributes := #[] }, { accessFlags := 2, nameIndex := 27, descriptorIndex := 24, attributes := #[] }, { accessFlags := 2, nameIndex := 30, descriptorIndex := 24, attributes := #[] }, { accessFlags := 2, nameIndex := 33, descriptorIndex := 24, attributes := #[] }, { accessFlags := 2, nameIndex := 36, descriptorIndex := 24, attributes := #[] }, { accessFlags := 2, nameIndex := 39, descriptorIndex := 40, attributes := #[] }, { accessFlags := 2, nameIndex := 43, descriptorIndex := 40, attributes := #[] }, { accessFlags := 2, nameIndex := 46, descriptorIndex := 40, attributes := #[] }, { accessFlags := 2, nameIndex := 49, descriptorIndex := 24, attributes := #[] }, { accessFlags := 2, nameIndex := 52, descriptorIndex := 24, attributes := #[] }, { accessFlags := 2, nameIndex := 336, descriptorIndex := 161, attributes := #[] }, { accessFlags := 2, nameIndex := 253, descriptorIndex := 17, attributes := #[] }, { accessFlags := 2, nameIndex := 257, descriptorIndex := 17, attributes := #[] }, { accessFlags := 18, nameIndex := 56, descriptorIndex := 57, attributes := #[] }, { accessFlags := 18, nameIndex := 60, descriptorIndex := 61, attributes := #[] }, { accessFlags := 18, nameIndex := 64, descriptorIndex := 24, attributes := #[] }, { accessFlags := 18, nameIndex := 67, descriptorIndex := 24, attributes := #[] }, { accessFlags := 18, nameIndex := 70, descriptorIndex := 24, attributes := #[] }, { accessFlags := 2, nameIndex := 579, descriptorIndex := 17, attributes := #[] }, { accessFlags := 2, nameIndex := 576, descriptorIndex := 17, attributes := #[] }, { accessFlags := 2, nameIndex := 202, descriptorIndex := 17, attributes := #[] }, { accessFlags := 2, nameIndex := 73, descriptorIndex := 24, attributes := #[] }, { accessFlags := 2, nameIndex := 76, descriptorIndex := 24, attributes := #[] }, { accessFlags := 2, nameIndex := 79, descriptorIndex := 24, attributes := #[] }, { accessFlags := 2, nameIndex := 82, descriptorIndex := 24, attributes := #[] }, { accessFlags := 18, nameIndex := 88, descriptorIndex := 89, attributes := #[] }, { accessFlags := 2, nameIndex := 92, descriptorIndex := 24, attributes := #[] }, { accessFlags := 2, nameIndex := 95, descriptorIndex := 61, attributes := #[] }, { accessFlags := 2, nameIndex := 98, descriptorIndex := 24, attributes := #[] }, { accessFlags := 2, nameIndex := 101, descriptorIndex := 24, attributes := #[] }, { accessFlags := 2, nameIndex := 104, descriptorIndex := 24, attributes := #[] }, { accessFlags := 2, nameIndex := 645, descriptorIndex := 17, attributes := #[] }])
  fields := #[{ name := "XML_NAMESPACE", type := (.object "java/lang/String"), accessFlags := 24, slot := 0, constantValue := 0 }, { name := "DOCTYPE_REFUSED", type := (.object "java/lang/String"), accessFlags := 24, slot := 1, constantValue := 0 }, { name := "XMLNS_NAMESPACE", type := (.object "java/lang/String"), accessFlags := 26, slot := 2, constantValue := 0 }, { name := "XMLNS", type := (.object "java/lang/String"), accessFlags := 26, slot := 3, constantValue := 0 }, { name := "CHUNK", type := .int, accessFlags := 26, slot := 4, constantValue := 0 }, { name := "ROOM", type := .int, accessFlags := 26, slot := 5, constantValue := 0 }, { name := "AHEAD", type := .int, accessFlags := 26, slot := 6, constantValue := 0 }, { name := "TEXT_PIECE", type := .int, accessFlags := 26, slot := 7, constantValue := 0 }, { name := "FEW_ATTRIBUTES", type := .int, accessFlags := 26, slot := 8, constantValue := 0 }, { name := "FIRST_CAPACITY", type := .int, accessFlags := 26, slot := 9, constantValue := 0 }, { name := "END", type := .int, accessFlags := 26, slot := 10, constantValue := 0 }, { name := "DEFAULT_PREFIX", type := .int, accessFlags := 26, slot := 11, constantValue := 0 }, { name := "XML_PREFIX", type := .int, accessFlags := 26, slot := 12, constantValue := 0 }, { name := "XMLNS_NAME", type := .int, accessFlags := 26, slot := 13, constantValue := 0 }, { name := "XML_NAMESPACE_NAME", type := .int, accessFlags := 26, slot := 14, constantValue := 0 }, { name := "UNBOUND", type := .int, accessFlags := 26, slot := 15, constantValue := 0 }, { name := "KNOWN_NAMES", type := .int, accessFlags := 26, slot := 16, constantValue := 0 }, { name := "PLAIN_TEXT", type := .int, accessFlags := 26, slot := 17, constantValue := 0 }, { name := "PLAIN_VALUE", type := .int, accessFlags := 26, slot := 18, constantValue := 0 }, { name := "PLAIN_NAME", type := .int, accessFlags := 26, slot := 19, constantValue := 0 }, { name := "KINDS", type := (.array .byte), accessFlags := 26, slot := 20, constantValue := 0 }, { name := "LONGEST_KNOWN_NAME", type := .int, accessFlags := 26, slot := 21, constantValue := 0 }, { name := "in", type := (.object "java/io/InputStream"), accessFlags := 2, slot := 0, constantValue := 0 }, { name := "transcoded", type := (.object "com/example/stummel/stummel/io/XmlReader$Utf8Stream"), accessFlags := 2, slot := 1, constantValue := 0 }, { name := "inputEnded", type := .boolean, accessFlags := 2, slot := 2, constantValue := 0 }, { name := "markedUtf8", type := .boolean, accessFlags := 2, slot := 3, constantValue := 0 }, { name := "documentStart", type := .long, accessFlags := 18, slot := 4, constantValue := 0 }, { name := "buffer", type := (.array .byte), accessFlags := 2, slot := 5, constantValue := 0 }, { name := "mark", type := .int, accessFlags := 2, slot := 6, constantValue := 0 }, { name := "position", type := .int, accessFlags := 2, slot := 7, constantValue := 0 }, { name := "limit", type := .int, accessFlags := 2, slot := 8, constantValue := 0 }, { name := "passed", type := .long, accessFlags := 2, slot := 9, constantValue := 0 }, { name := "line", type := .int, accessFlags := 2, slot := 10, constantValue := 0 }, { name := "lineStart", type := .long, accessFlags := 2, slot := 11, constantValue := 0 }, { name := "continuations", type := .int, accessFlags := 2, slot := 12, constantValue := 0 }, { name := "rootRead", type := .boolean, accessFlags := 2, slot := 13, constantValue := 0 }, { name := "emptyElement", type := .boolean, accessFlags := 2, slot := 14, constantValue := 0 }, { name := "inCdata", type := .boolean, accessFlags := 2, slot := 15, constantValue := 0 }, { name := "brackets", type := .int, accessFlags := 2, slot := 16, constantValue := 0 }, { name := "pool", type := (.array .byte), accessFlags := 2, slot := 17, constantValue := 0 }, { name := "poolLength", type := .int, accessFlags := 2, slot := 18, constantValue := 0 }, { name := "textPooled", type := .boolean, accessFlags := 2, slot := 19, constantValue := 0 }, { name := "textStart", type := .int, accessFlags := 2, slot := 20, constantValue := 0 }, { name := "textEnd", type := .int, accessFlags := 2, slot := 21, constantValue := 0 }, { name := "textAscii", type := .boolean, accessFlags := 2, slot := 22, constantValue := 0 }, { name := "elementNameEnd", type := .int, accessFlags := 2, slot := 23, constantValue := 0 }, { name := "elementNumber", type := .int, accessFlags := 2, slot := 24, constantValue := 0 }, { name := "attributeCount", type := .int, accessFlags := 2, slot := 25, constantValue := 0 }, { name := "declarationCount", type := .int, accessFlags := 2, slot := 26, constantValue := 0 }, { name := "prefixedCount", type := .int, accessFlags := 2, slot := 27, constantValue := 0 }, { name := "nameStart", type := (.array .int), accessFlags := 2, slot := 28, constantValue := 0 }, { name := "nameColon", type := (.array .int), accessFlags := 2, slot := 29, constantValue := 0 }, { name := "nameEnd", type := (.array .int), accessFlags := 2, slot := 30, constantValue := 0 }, { name := "valueStart", type := (.array .int), accessFlags := 2, slot := 31, constantValue := 0 }, { name := "valueEnd", type := (.array .int), accessFlags := 2, slot := 32, constantValue := 0 }, { name := "pooled", type := (.array .boolean), accessFlags := 2, slot := 33, constantValue := 0 }, { name := "valueAscii", type := (.array .boolean), accessFlags := 2, slot := 34, constantValue := 0 }, { name := "declaration", type := (.array .boolean), accessFlags := 2, slot := 35, constantValue := 0 }, { name := "attributeNamespace", type := (.array .int), accessFlags := 2, slot := 36, constantValue := 0 }, { name := "attributeLocalName", type := (.array .int), accessFlags := 2, slot := 37, constantValue := 0 }, { name := "tags", type := .long, accessFlags := 2, slot := 38, constantValue := 0 }, { name := "namespace", type := .int, accessFlags := 2, slot := 39, constantValue := 0 }, { name := "localName", type := .int, accessFlags := 2, slot := 40, constantValue := 0 }, { name := "knownName", type := (.array (.array .byte)), accessFlags := 18, slot := 41, constantValue := 0 }, { name := "knownWord", type := (.array .long), accessFlags := 18, slot := 42, constantValue := 0 }, { name := "knownColon", type := (.array .int), accessFlags := 18, slot := 43, constantValue := 0 }, { name := "knownNumber", type := (.array .int), accessFlags := 18, slot := 44, constantValue := 0 }, { name := "knownLocalNumber", type := (.array .int), accessFlags := 18, slot := 45, constantValue := 0 }, { name := "readNumber", type := .int, accessFlags := 2, slot := 46, constantValue := 0 }, { name := "readLocalNumber", type := .int, accessFlags := 2, slot := 47, constantValue := 0 }, { name := "depth", type := .int, accessFlags := 2, slot := 48, constantValue := 0 }, { name := "openName", type := (.array .int), accessFlags := 2, slot := 49, constantValue := 0 }, { name := "openNamespace", type := (.array .int), accessFlags := 2, slot := 50, constantValue := 0 }, { name := "openLocalName", type := (.array .int), accessFlags := 2, slot := 51, constantValue := 0 }, { name := "bindingMark", type := (.array .int), accessFlags := 2, slot := 52, constantValue := 0 }, { name := "names", type := (.object "com/example/stummel/stummel/io/StringTable"), accessFlags := 18, slot := 53, constantValue := 0 }, { name := "bound", type := (.array .int), accessFlags := 2, slot := 54, constantValue := 0 }, { name := "stamp", type := (.array .long), accessFlags := 2, slot := 55, constantValue := 0 }, { name := "stampedAttribute", type := (.array .int), accessFlags := 2, slot := 56, constantValue := 0 }, { name := "shadowedPrefix", type := (.array .int), accessFlags := 2, slot := 57, constantValue := 0 }, { name := "shadowedNamespace", type := (.array .int), accessFlags := 2, slot := 58, constantValue := 0 }, { name := "shadowedCount", type := .int, accessFlags := 2, slot := 59, constantValue := 0 }]
  methods := #[k2m0]
  instanceTypes := #[(.object "java/io/InputStream"), (.object "com/example/stummel/stummel/io/XmlReader$Utf8Stream"), .boolean, .boolean, .long, (.array .byte), .int, .int, .int, .long, .int, .long, .int, .boolean, .boolean, .boolean, .int, (.array .byte), .int, .boolean, .int, .int, .boolean, .int, .int, .int, .int, .int, (.array .int), (.array .int), (.array .int), (.array .int), (.array .int), (.array .boolean), (.array .boolean), (.array .boolean), (.array .int), (.array .int), .long, .int, .int, (.array (.array .byte)), (.array .long), (.array .int), (.array .int), (.array .int), .int, .int, .int, (.array .int), (.array .int), (.array .int), (.array .int), (.object "com/example/stummel/stummel/io/StringTable"), (.array .int), (.array .long), (.array .int), (.array .int), (.array .int), .int]
  staticTypes := #[(.object "java/lang/String"), (.object "java/lang/String"), (.object "java/lang/String"), (.object "java/lang/String"), .int, .int, .int, .int, .int, .int, .int, .int, .int, .int, .int, .int, .int, .int, .int, .int, (.array .byte), .int]
  resolved := Array.replicate 1041 none
  statics := none }

def pool3 : Array CpInfo := pool [(1, u "java/lang/Cloneable"), (0, .class_ 1), (0, u "java/lang/Object"), (0, .class_ 3)] 3

/-- java/lang/Cloneable -/
def k3 : Class := { plain "java/lang/Cloneable" (some 0) with
  accessFlags := 1537
  interfaces := #[]
  cf := some (fileOf pool3 2 #[] #[] 1537 4 #[] #[])
  fields := #[]
  methods := #[]
  instanceTypes := #[]
  staticTypes := #[]
  resolved := Array.replicate 8 none
  statics := none }

def pool4 : Array CpInfo := pool [(1, u "java/io/Serializable"), (0, .class_ 1), (0, u "java/lang/Object"), (0, .class_ 3)] 3

/-- java/io/Serializable -/
def k4 : Class := { plain "java/io/Serializable" (some 0) with
  accessFlags := 1537
  interfaces := #[]
  cf := some (fileOf pool4 2 #[] #[] 1537 4 #[] #[])
  fields := #[]
  methods := #[]
  instanceTypes := #[]
  staticTypes := #[]
  resolved := Array.replicate 8 none
  statics := none }

/-- the primitive byte -/
def k5 : Class := { plain "byte" none with kind := .primitive 'B', accessFlags := 0x411 }
/-- [B -/
def k6 : Class := { plain "[B" (some 0) with kind := .array 5 .byte, interfaces := #[3, 4], accessFlags := 1041 }

/-- the primitive int -/
def k7 : Class := { plain "int" none with kind := .primitive 'I', accessFlags := 0x411 }
/-- [I -/
def k8 : Class := { plain "[I" (some 0) with kind := .array 7 .int, interfaces := #[3, 4], accessFlags := 1041 }

def heap : Heap := #[]
def classes : Array Class := #[k0, k1, k2, k3, k4, k5, k6, k7, k8]
def interned : List (Array UInt16 × Addr) := []
def slotsUsed : Nat := 0
def theMethod : MethodId := ⟨1, 1⟩
def args0 : Array Value := #[.int 5, .int 3, .int 1]
def aboutOver (below : List Frame) : State where
  vm := { classes := classes, interned := interned.toArray }
  heap := heap
  slotsUsed := slotsUsed
  threads := #[{ frames := .invoking theMethod args0 :: below }]
def below0 : List Frame := [.native { method := ⟨0, 0⟩, args := #[] }]
def about1 : State := aboutOver below0
def p0 : Program := .bare "" "" ""
def e0 : Env := launch0.env 0 0 0
theorem w_frames : about1.frames = Frame.invoking theMethod args0 :: below0 := rfl
set_option maxRecDepth 65536 in
theorem w_args : argsFit about1.vm theMethod args0 = true := by decide +kernel
set_option maxRecDepth 65536 in
theorem w_heap : heapFits about1 = true := by decide +kernel
set_option maxRecDepth 65536 in
theorem w_runnable : about1.curStatus? = some .runnable := by decide +kernel
set_option maxRecDepth 65536 in
theorem w_alone : about1.alone = true := by decide +kernel
set_option maxRecDepth 65536 in
theorem w_named : about1.methodNamed? x = some theMethod := by decide +kernel
set_option maxRecDepth 65536 in
theorem w_hears : about1.hears theMethod below0 = true := by decide +kernel
set_option maxRecDepth 65536 in
theorem w_ripe : about1.ripe theMethod args0 below0 = true := by decide +kernel
theorem w_running : about1.status = .running := rfl
set_option maxRecDepth 65536 in
theorem w_room : about1.hasRoom e0.platform room_1 = true :=
  launch0.hasRoom_least _ room_1 (by decide +kernel) (by decide +kernel) (by decide +kernel) (by decide +kernel) (by decide +kernel) (by decide +kernel)
theorem allAtoms_all (ts : List Jvm.Cond) (a : Array Jvm.Value) (st : Jvm.State) : (allAtoms ts).before a st = ts.all (fun c => c.before a st) := by
  induction ts with
  | nil => rfl
  | cons c t ih =>
    show (Jvm.Cond.and c (allAtoms t)).before a st = _
    rw [Jvm.Cond.before_and, ih, List.all_cons]
def words1 : List Jvm.Cond := Jvm.Cond.code x code maxLocals ret :: tables_1
/-- a 'code' word, met by the world's own term for the bytes: nothing is compared byte by byte -/
theorem code_word {y : MethodName} {bytes : ByteArray} {mx : Nat} {rt : Option FieldType} {a : Array Value} {s : State} {m : MethodId} {meth : Method} {c : Code} (h1 : s.methodNamed? y = some m) (h2 : s.vm.method? m = some meth) (h3 : meth.code = some c) (h4 : c.code = bytes)
    (h5 : (c.maxLocals == mx && c.exceptionTable.isEmpty && decide (c.maxStack ≤ mostOperands) && decide (meth.sig.returnType = rt) && !meth.locks && decide (parseMethodDescriptor y.desc = some meth.sig)) = true) : (Jvm.Cond.code y bytes mx rt).before a s = true := by
  simp only [Bool.and_eq_true, beq_iff_eq, Bool.not_eq_true', decide_eq_true_eq] at h5
  obtain ⟨⟨⟨⟨⟨g1, g2⟩, g3⟩, g4⟩, g5⟩, g6⟩ := h5
  simp [Cond.before, Cond.holds, Cond.value, h1, h2, h3, h4, g1, g2, g3, g4, g5, g6]
def isCode : Jvm.Cond → Bool
  | .code _ _ _ _ => true
  | _ => false
theorem all_split {L : List Jvm.Cond} {P : Jvm.Cond → Bool} (h1 : L.all (fun c => isCode c || P c) = true) (h2 : ∀ c ∈ L.filter isCode, P c = true) : L.all P = true := by
  refine List.all_eq_true.mpr fun c hc => ?_
  have h := List.all_eq_true.mp h1 c hc
  rcases Bool.eq_false_or_eq_true (isCode c) with hi | hi
  · exact h2 c (List.mem_filter.mpr ⟨hc, hi⟩)
  · simpa [hi] using h
set_option maxRecDepth 65536 in
theorem w_c0 : (Jvm.Cond.code x code maxLocals ret).before args0 about1 = true := code_word (m := ⟨1, 1⟩) (meth := k1m1) (c := k1c1) (by decide +kernel) rfl rfl rfl (by decide +kernel)
set_option maxRecDepth 65536 in
theorem w_c1 : (Jvm.Cond.code ({ cls := "com/example/stummel/stummel/io/XmlReader", name := "isXmlCharacter", desc := "(I)Z" } : Jvm.MethodName) prog_45_method_79_code (1 : Nat) (Option.some Jvm.ClassFile.FieldType.boolean)).before args0 about1 = true := code_word (m := ⟨2, 0⟩) (meth := k2m0) (c := k2c0) (by decide +kernel) rfl rfl rfl (by decide +kernel)
set_option maxRecDepth 65536 in
theorem w_c2 : (Jvm.Cond.code ({ cls := "com/example/stummel/stummel/io/XmlReaderIsXmlCharacterPinLaw", name := "expected", desc := "(I)Z" } : Jvm.MethodName) method_3_code (1 : Nat) (Option.some Jvm.ClassFile.FieldType.boolean)).before args0 about1 = true := code_word (m := ⟨1, 2⟩) (meth := k1m2) (c := k1c2) (by decide +kernel) rfl rfl rfl (by decide +kernel)
def codes1 : List Jvm.Cond := [Jvm.Cond.code x code maxLocals ret, Jvm.Cond.code ({ cls := "com/example/stummel/stummel/io/XmlReader", name := "isXmlCharacter", desc := "(I)Z" } : Jvm.MethodName) prog_45_method_79_code (1 : Nat) (Option.some Jvm.ClassFile.FieldType.boolean), Jvm.Cond.code ({ cls := "com/example/stummel/stummel/io/XmlReaderIsXmlCharacterPinLaw", name := "expected", desc := "(I)Z" } : Jvm.MethodName) method_3_code (1 : Nat) (Option.some Jvm.ClassFile.FieldType.boolean)]
set_option maxRecDepth 65536 in
theorem codes_eq : words1.filter isCode = codes1 := rfl
theorem w_codes : ∀ c ∈ words1.filter isCode, c.before args0 about1 = true := by
  rw [codes_eq]
  intro c hc
  simp only [codes1, List.mem_cons, List.not_mem_nil, or_false] at hc
  rcases hc with rfl | rfl | rfl
  · exact w_c0
  · exact w_c1
  · exact w_c2
set_option maxRecDepth 65536 in
theorem w_t1 : (words1.take 24).all (fun c => isCode c || c.before args0 about1) = true := by decide +kernel
set_option maxRecDepth 65536 in
theorem w_t2 : (words1.drop 24).all (fun c => isCode c || c.before args0 about1) = true := by decide +kernel
theorem w_tables : (allAtoms (Jvm.Cond.code x code maxLocals ret :: tables_1)).before args0 about1 = true := by
  rw [allAtoms_all]
  show words1.all (fun c => c.before args0 about1) = true
  refine all_split ?_ w_codes
  rw [← List.take_append_drop 24 words1, List.all_append, w_t1, w_t2]
  rfl
set_option maxRecDepth 65536 in
theorem w_case : (Jvm.Cond.and given_1 narrow_1).before args0 about1 = true := by decide +kernel
theorem w_applies : (headSpec (Jvm.Cond.code x code maxLocals ret :: tables_1) room_1).applies x e0.platform about1 = true :=
  (Spec.applies_iff w_frames).mpr ⟨w_running, w_runnable, w_alone, w_named, w_hears, w_ripe, w_room, w_tables⟩
theorem atStart : AtStart classFile x code maxLocals ret World_1 tables_1 room_1 Calls_1 rest_1 Pre_1 launch0 p0 e0 about1 theMethod args0 below0 :=
  ⟨lists_1, trivial, launch0.admits_env _ _ _, launch0.least_env, fairChoices_fair.cas, fairChoices_fair.clock, w_frames, w_args, w_heap, w_applies, trivial, trivial, w_case⟩
end start1
theorem witness_1 : WitnessClaimed_1 := ⟨start1.p0, start1.e0, start1.about1, start1.theMethod, start1.args0, start1.below0, start1.atStart⟩
end Jvm.Pilot.@@N@@
