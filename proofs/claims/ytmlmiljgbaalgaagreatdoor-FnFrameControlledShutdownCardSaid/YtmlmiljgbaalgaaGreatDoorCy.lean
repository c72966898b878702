import Derived.Test.YtmlmiljgbaalgaaGreatDoorCx
set_option linter.unusedSimpArgs false
set_option linter.unusedVariables false
namespace Go.CX
theorem T.get_set_ne {α:Type}:∀ (f:Nat) (t:T α) (n:Nat) (x:Option α) (m:Nat),m≠n→T.get f (T.set f t n x) m=T.get f t m:=by
 intro f
 induction f with
 | zero=>intro t n x m h;rfl
 | succ f ih=>
  intro t n x m h
  cases t with
  | nil=>
   cases n with
   | zero=>
    cases m with
    | zero=>exact (h rfl).elim
    | succ m=>simp only [T.set,T.get,T.get_nil];split<;>rfl
   | succ n=>
    cases m with
    | zero=>simp only [T.set];split<;>rfl
    | succ m=>
     simp only [T.set]
     split<;>rename_i hn<;>simp only [T.get]<;>split<;>rename_i hm
     ·rw [ih _ _ _ _ (by omega),T.get_nil]
     ·rw [T.get_nil]
     ·rw [T.get_nil]
     ·rw [ih _ _ _ _ (by omega),T.get_nil]
  | node l v r=>
   cases n with
   | zero=>
    cases m with
    | zero=>exact (h rfl).elim
    | succ m=>rfl
   | succ n=>
    cases m with
    | zero=>simp only [T.set];split<;>rfl
    | succ m=>
     simp only [T.set]
     split<;>rename_i hn<;>simp only [T.get]<;>split<;>rename_i hm
     ·exact ih _ _ _ _ (by omega)
     ·rfl
     ·rfl
     ·exact ih _ _ _ _ (by omega)
section
variable {P:Program} {call:FuncId→List AV→Heap→Option (AV×Heap)} {fr fr':T AV} {h:Heap} {o:Oper}
theorem sameV_eq {a b:Value} (h:sameV a b=true):a=b:=by
 unfold sameV at h
 split at h<;>simp_all
end
end Go.CX

